/- Joined texts: K11 K2 K4 K5 S2 K12 K5N K13N K5P K13P K5F K13F K5S K13S S3 K5C K13C K5M K13M K5D K13D K5Z K13Z. -/
import Derived.Test.YtnklanajebphpaaGreatDoorJ6
import Derived.Test.YtnklanajebphpaaGreatDoorJ3
import Derived.Test.YtnklanajebphpaaGreatDoorJ4
import Derived.Test.YtnklanajebphpaaGreatDoorChecked
import Derived.Test.YtnklanajebphpaaGreatDoorJ2
import Derived.WalkKit
import Derived.Test.YtnklanajebphpaaGreatDoorJ7
set_option maxRecDepth 100000
set_option maxHeartbeats 4000000
set_option linter.unusedVariables false
set_option linter.unusedSimpArgs false
namespace Go.Proofs.YtnklanajebphpaaGreatDoor
open IntKind
section
open Go Go.Rx Go.RowKit
structure VN where
 x:Nat
 n:Nat
@[reducible] def E4:Hook:={ X:=VN,out:=fun _ s z=>(.tup [.int .u64 z.x false,.int .i64 z.n false,.one .nilIface rfl],s.objs) }
def KN:Hooks:={ calls:=fun f=>if f=142 then some E4 else none,loops:=fun _ _=>none }
noncomputable abbrev uM(w:World)(A:Option Addr):Int:=(u64.wrap (↑(BitVec.ofInt 64 (0:Int) |||BitVec.ofInt 64 (u64.wrap (u64.wrap (u8.wrap (↑(BitVec.ofInt 8 (aj w (((A.getD default).add 0).add 0)) &&& BitVec.ofInt 8 (127:Int)).toNat:Int))*(2:Int)^0))).toNat:Int))
noncomputable abbrev uK(w:World)(A:Option Addr):Int:=(u64.wrap (↑(BitVec.ofInt 64 (uM w A) |||BitVec.ofInt 64 (u64.wrap (u64.wrap (u8.wrap (↑(BitVec.ofInt 8 (aj w (((A.getD default).add 1).add 0)) &&& BitVec.ofInt 8 (127:Int)).toNat:Int))*(2:Int)^7))).toNat:Int))
noncomputable abbrev uL(w:World)(A:Option Addr):Int:=(u64.wrap (↑(BitVec.ofInt 64 (uK w A) |||BitVec.ofInt 64 (u64.wrap (u64.wrap (u8.wrap (↑(BitVec.ofInt 8 (aj w (((A.getD default).add 2).add 0)) &&& BitVec.ofInt 8 (127:Int)).toNat:Int))*(2:Int)^14))).toNat:Int))
noncomputable abbrev zK(w:World)(A:Option Addr):Int:=(u64.wrap (↑(BitVec.ofInt 64 (uL w A) |||BitVec.ofInt 64 (u64.wrap (u64.wrap (u8.wrap (↑(BitVec.ofInt 8 (aj w (((A.getD default).add 3).add 0)) &&& BitVec.ofInt 8 (127:Int)).toNat:Int))*(2:Int)^21))).toNat:Int))
noncomputable abbrev ga(w:World):T:=(.need (canRead w [] (Addr.mk 4 0 none) [SV.one (eh w ((Addr.mk 4 0 none).add 0)).val (eh w ((Addr.mk 4 0 none).add 0)).property]) (.leaf .ret [(.tup [(.int .u64 0 true),(.int .i64 0 true),(.one (eh w ((Addr.mk 4 0 none).add 0)).1 (eh w ((Addr.mk 4 0 none).add 0)).2)])] (SS.mk [] [] true w [])))
noncomputable abbrev iV(w:World):T:=(.need (canRead w [] (Addr.mk 3 0 none) [SV.one (eh w ((Addr.mk 3 0 none).add 0)).val (eh w ((Addr.mk 3 0 none).add 0)).property]) (.leaf .ret [(.tup [(.int .u64 0 true),(.int .i64 0 true),(.one (eh w ((Addr.mk 3 0 none).add 0)).1 (eh w ((Addr.mk 3 0 none).add 0)).2)])] (SS.mk [] [] true w [])))
noncomputable abbrev mX:Int:=(i64.wrap ((0:Int)+(1:Int))+(1:Int))
noncomputable abbrev gM:Int:=(i64.wrap mX+(1:Int))
noncomputable abbrev jY:Int:=(i64.wrap (i64.wrap gM+(1:Int))+(1:Int))
noncomputable abbrev Ff(w:World)(A:Option Addr):Int:=(u8.wrap (↑(BitVec.ofInt 8 (aj w (((A.getD default).add 4).add 0)) &&& BitVec.ofInt 8 (127:Int)).toNat:Int))
noncomputable abbrev Fg(w:World)(A:Option Addr):Int:=(u64.wrap (u64.wrap (u8.wrap (↑(BitVec.ofInt 8 (aj w (((A.getD default).add 5).add 0)) &&& BitVec.ofInt 8 (127:Int)).toNat:Int))*(2:Int)^35))
noncomputable abbrev zL(w:World):T:=(.need (canRead w [] (Addr.mk 2 0 none) [SV.one (eh w ((Addr.mk 2 0 none).add 0)).val (eh w ((Addr.mk 2 0 none).add 0)).property]) (.leaf .ret [(.tup [(.int .u64 0 true),(.int .i64 0 true),(.one (eh w ((Addr.mk 2 0 none).add 0)).1 (eh w ((Addr.mk 2 0 none).add 0)).2)])] (SS.mk [] [] true w [])))
noncomputable abbrev zM(w:World)(A:Option Addr):T:=(.leaf .ret [(.tup [(.int .u64 (u64.wrap (↑(BitVec.ofInt 64 (0:Int) |||BitVec.ofInt 64 (u64.wrap (u64.wrap (aj w (((A.getD default).add 0).add 0))*(2:Int)^0))).toNat:Int)) false),(.int .i64 1 true),(.one .nilIface rfl)])] (SS.mk [] [] true w []))
noncomputable abbrev zN(w:World)(A:Option Addr):Int:=(u64.wrap (u64.wrap (u8.wrap (↑(BitVec.ofInt 8 (aj w (((A.getD default).add 6).add 0)) &&& BitVec.ofInt 8 (127:Int)).toNat:Int))*(2:Int)^42))
noncomputable abbrev gL:Int:=(i64.wrap (i64.wrap jY+(1:Int))+(1:Int))
noncomputable abbrev uN(w:World)(A:Option Addr):Int:=(u64.wrap (↑(BitVec.ofInt 64 (zK w A) |||BitVec.ofInt 64 (u64.wrap (u64.wrap (Ff w A)*(2:Int)^28))).toNat:Int))
noncomputable abbrev pN(w:World)(A:Option Addr):Int:=(u64.wrap (↑(BitVec.ofInt 64 (uN w A) |||BitVec.ofInt 64 (Fg w A)).toNat:Int))
noncomputable abbrev pO:Int:=(i64.wrap (i64.wrap gL+(1:Int))+(1:Int))
theorem K3(A:Option Addr)(n c:Nat)(w:World):al Tryz.prog ar 6000 142 [.xs A n c] (SS.mk [] [] true w []) =
(.split (decide ((0:Int)<(↑n:Int))) (.need ((0:Int)<=(0:Int)/\(0:Int)<(↑n:Int)) (.need (A.isSome=true) (.need (canRead w [] ((A.getD default).add 0) [SV.int u8 (aj w (((A.getD default).add 0).add 0)) false]) (.split (decide (aj w (((A.getD default).add 0).add 0)<(128:Int))) (.split (aj w (((A.getD default).add 0).add 0) == (0:Int)) (zM w A) (zM w A)) (.split (decide (i64.wrap ((0:Int)+(1:Int))<(↑n:Int))) (.need ((0:Int)<=i64.wrap ((0:Int)+(1:Int))/\i64.wrap ((0:Int)+(1:Int))<(↑n:Int)) (.need (A.isSome=true) (.need (canRead w [] ((A.getD default).add 1) [SV.int u8 (aj w (((A.getD default).add 1).add 0)) false]) (.split (decide (aj w (((A.getD default).add 1).add 0)<(128:Int))) (.split (aj w (((A.getD default).add 1).add 0) == (0:Int)) (iV w) (.leaf .ret [(.tup [(.int .u64 (u64.wrap (↑(BitVec.ofInt 64 (uM w A) |||BitVec.ofInt 64 (u64.wrap (u64.wrap (aj w (((A.getD default).add 1).add 0))*(2:Int)^7))).toNat:Int)) false),(.int .i64 2 true),(.one .nilIface rfl)])] (SS.mk [] [] true w []))) (.split (decide (i64.wrap mX<(↑n:Int))) (.need ((0:Int)<=i64.wrap mX/\i64.wrap mX<(↑n:Int)) (.need (A.isSome=true) (.need (canRead w [] ((A.getD default).add 2) [SV.int u8 (aj w (((A.getD default).add 2).add 0)) false]) (.split (decide (aj w (((A.getD default).add 2).add 0)<(128:Int))) (.split (aj w (((A.getD default).add 2).add 0) == (0:Int)) (iV w) (.leaf .ret [(.tup [(.int .u64 (u64.wrap (↑(BitVec.ofInt 64 (uK w A) |||BitVec.ofInt 64 (u64.wrap (u64.wrap (aj w (((A.getD default).add 2).add 0))*(2:Int)^14))).toNat:Int)) false),(.int .i64 3 true),(.one .nilIface rfl)])] (SS.mk [] [] true w []))) (.split (decide (i64.wrap gM<(↑n:Int))) (.need ((0:Int)<=i64.wrap gM/\i64.wrap gM<(↑n:Int)) (.need (A.isSome=true) (.need (canRead w [] ((A.getD default).add 3) [SV.int u8 (aj w (((A.getD default).add 3).add 0)) false]) (.split (decide (aj w (((A.getD default).add 3).add 0)<(128:Int))) (.split (aj w (((A.getD default).add 3).add 0) == (0:Int)) (iV w) (.leaf .ret [(.tup [(.int .u64 (u64.wrap (↑(BitVec.ofInt 64 (uL w A) |||BitVec.ofInt 64 (u64.wrap (u64.wrap (aj w (((A.getD default).add 3).add 0))*(2:Int)^21))).toNat:Int)) false),(.int .i64 4 true),(.one .nilIface rfl)])] (SS.mk [] [] true w []))) (.split (decide (i64.wrap (i64.wrap gM+(1:Int))<(↑n:Int))) (.need ((0:Int)<=i64.wrap (i64.wrap gM+(1:Int))/\i64.wrap (i64.wrap gM+(1:Int))<(↑n:Int)) (.need (A.isSome=true) (.need (canRead w [] ((A.getD default).add 4) [SV.int u8 (aj w (((A.getD default).add 4).add 0)) false]) (.split (decide (aj w (((A.getD default).add 4).add 0)<(128:Int))) (.split (aj w (((A.getD default).add 4).add 0) == (0:Int)) (iV w) (.leaf .ret [(.tup [(.int .u64 (u64.wrap (↑(BitVec.ofInt 64 (zK w A) |||BitVec.ofInt 64 (u64.wrap (u64.wrap (aj w (((A.getD default).add 4).add 0))*(2:Int)^28))).toNat:Int)) false),(.int .i64 5 true),(.one .nilIface rfl)])] (SS.mk [] [] true w []))) (.split (decide (i64.wrap jY<(↑n:Int))) (.need ((0:Int)<=i64.wrap jY/\i64.wrap jY<(↑n:Int)) (.need (A.isSome=true) (.need (canRead w [] ((A.getD default).add 5) [SV.int u8 (aj w (((A.getD default).add 5).add 0)) false]) (.split (decide (aj w (((A.getD default).add 5).add 0)<(128:Int))) (.split (aj w (((A.getD default).add 5).add 0) == (0:Int)) (iV w) (.leaf .ret [(.tup [(.int .u64 (u64.wrap (↑(BitVec.ofInt 64 (uN w A) |||BitVec.ofInt 64 (u64.wrap (u64.wrap (aj w (((A.getD default).add 5).add 0))*(2:Int)^35))).toNat:Int)) false),(.int .i64 6 true),(.one .nilIface rfl)])] (SS.mk [] [] true w []))) (.split (decide (i64.wrap (i64.wrap jY+(1:Int))<(↑n:Int))) (.need ((0:Int)<=i64.wrap (i64.wrap jY+(1:Int))/\i64.wrap (i64.wrap jY+(1:Int))<(↑n:Int)) (.need (A.isSome=true) (.need (canRead w [] ((A.getD default).add 6) [SV.int u8 (aj w (((A.getD default).add 6).add 0)) false]) (.split (decide (aj w (((A.getD default).add 6).add 0)<(128:Int))) (.split (aj w (((A.getD default).add 6).add 0) == (0:Int)) (iV w) (.leaf .ret [(.tup [(.int .u64 (u64.wrap (↑(BitVec.ofInt 64 (pN w A) |||BitVec.ofInt 64 (u64.wrap (u64.wrap (aj w (((A.getD default).add 6).add 0))*(2:Int)^42))).toNat:Int)) false),(.int .i64 7 true),(.one .nilIface rfl)])] (SS.mk [] [] true w []))) (.split (decide (i64.wrap gL<(↑n:Int))) (.need ((0:Int)<=i64.wrap gL/\i64.wrap gL<(↑n:Int)) (.need (A.isSome=true) (.need (canRead w [] ((A.getD default).add 7) [SV.int u8 (aj w (((A.getD default).add 7).add 0)) false]) (.split (decide (aj w (((A.getD default).add 7).add 0)<(128:Int))) (.split (aj w (((A.getD default).add 7).add 0) == (0:Int)) (iV w) (.leaf .ret [(.tup [(.int .u64 (u64.wrap (↑(BitVec.ofInt 64 (u64.wrap (↑(BitVec.ofInt 64 (pN w A) |||BitVec.ofInt 64 (zN w A)).toNat:Int)) |||BitVec.ofInt 64 (u64.wrap (u64.wrap (aj w (((A.getD default).add 7).add 0))*(2:Int)^49))).toNat:Int)) false),(.int .i64 8 true),(.one .nilIface rfl)])] (SS.mk [] [] true w []))) (.split (decide (i64.wrap (i64.wrap gL+(1:Int))<(↑n:Int))) (.need ((0:Int)<=i64.wrap (i64.wrap gL+(1:Int))/\i64.wrap (i64.wrap gL+(1:Int))<(↑n:Int)) (.need (A.isSome=true) (.need (canRead w [] ((A.getD default).add 8) [SV.int u8 (aj w (((A.getD default).add 8).add 0)) false]) (.split (decide (aj w (((A.getD default).add 8).add 0) ≥ (128:Int))) (zL w) (.split (decide (aj w (((A.getD default).add 8).add 0)<(128:Int))) (.split (aj w (((A.getD default).add 8).add 0) == (0:Int)) (iV w) (.leaf .ret [(.tup [(.int .u64 (u64.wrap (↑(BitVec.ofInt 64 (u64.wrap (↑(BitVec.ofInt 64 (u64.wrap (↑(BitVec.ofInt 64 (pN w A) |||BitVec.ofInt 64 (zN w A)).toNat:Int)) |||BitVec.ofInt 64 (u64.wrap (u64.wrap (u8.wrap (↑(BitVec.ofInt 8 (aj w (((A.getD default).add 7).add 0)) &&& BitVec.ofInt 8 (127:Int)).toNat:Int))*(2:Int)^49))).toNat:Int)) |||BitVec.ofInt 64 (u64.wrap (u64.wrap (aj w (((A.getD default).add 8).add 0))*(2:Int)^56))).toNat:Int)) false),(.int .i64 9 true),(.one .nilIface rfl)])] (SS.mk [] [] true w []))) (.split (decide (i64.wrap pO<(↑n:Int))) (.need ((0:Int)<=i64.wrap pO/\i64.wrap pO<(↑n:Int)) (.need (A.isSome=true) (.need (canRead w [] ((A.getD default).add 9) [SV.int u8 (aj w (((A.getD default).add 9).add 0)) false]) (zL w)))) (ga w))))))) (ga w)))))) (ga w)))))) (ga w)))))) (ga w)))))) (ga w)))))) (ga w)))))) (ga w)))))) (ga w)))))) (ga w)):=by kernel_rfl
theorem K2(A:Option Addr)(n c:Nat)(w:World):(by have h:=K3 A n c w;unfold pO pN uN gL zN zM zL Fg Ff jY gM mX iV ga zK uL uK uM at h;exact type_of% h):=K3 A n c w
theorem Qp(A:Option Addr)(n c:Nat)(w:World):al Tryz.prog KN 6000 96 [.xs A n c] (SS.mk [] [] true w []) =
 (.hc 142 [(.xs A n c)] (SS.mk [] [] true w []) (E4) fun x0 w0 b0=>
 (.split (decide ((↑x0.x:Int) > (2147483647:Int)))
  (.need (canRead w0 b0 (Addr.mk (2:Nat) (0:Nat) none) [SV.one (eh w0 ((Addr.mk (2:Nat) (0:Nat) none).add (0:Nat))).val (eh w0 ((Addr.mk (2:Nat) (0:Nat) none).add (0:Nat))).property])
  (.leaf .ret [(.tup [(.int .i64 0 true),(.int .i64 0 true),(.one (eh w0 ((Addr.mk (2:Nat) (0:Nat) none).add (0:Nat))).1 (eh w0 ((Addr.mk (2:Nat) (0:Nat) none).add (0:Nat))).2)])] (SS.mk [] [] true w0 b0)))
  (.leaf .ret [(.tup [(.int .i64 (i64.wrap (↑x0.x:Int)) false),(.int .i64 ((↑x0.n:Int)) false),(.one .nilIface rfl)])] (SS.mk [] [] true w0 b0)))):=by kernel_rfl
theorem IP:∀m:Fin 128,u8.wrap (((BitVec.ofInt 8 (((m.val+128:Nat)):Int) &&& BitVec.ofInt 8 (127:Int)).toNat:Nat):Int)=((m.val:Nat):Int):=by decide +kernel
theorem eK{b:Int}{m:Nat}(hb:b=((m+128:Nat):Int))(hm:m<128):u8.wrap (((BitVec.ofInt 8 b &&& BitVec.ofInt 8 (127:Int)).toNat:Nat):Int)=(m:Int):=by
 subst hb
 exact IP ⟨m,hm⟩
theorem zm{m:Nat}(h:m<256):(UInt8.ofNat m).toNat=m:=by
 rw[UInt8.toNat_ofNat']
 omega
theorem PK(A:Option Addr)(n c k:Nat)(rest:List UInt8)(B:Nat)(w:World)(h:Bts w B A n (uv k++rest))(hB:B<=w.heap.size)(hk:k<128) :
  Calls Tryz.prog 142 #[.slice A n c] w (bB (fun v _=>v=.tuple #[.int .u64 k,.int .i64 (uv k).length,.nilIface]) w):=by
 have hl:=h.1
 rw[bO hk]at h hl ⊢
 simp only[List.length_append,List.length_cons,List.length_nil]at hl
 obtain⟨a0,r0,v0⟩:=bu (bs:=[]) h hB (Below.refl _ _) (by simp) 0 (by omega)
 have v0':aj w (((A.getD default).add 0).add 0)=(k:Int):=by rw[v0];show((UInt8.ofNat k).toNat:Int)=_;rw[zm (by omega)]
 refine aF (hk:=ar) (n:=6000) (args:=[.xs A n c]) ⟨trivial,trivial⟩ ?_
 refine ah (K2 A n c w) (ak (fun _=>?_) (fun h=>absurd (show(0:Int)<n by omega) h))
 refine aa (by omega) (aa a0 (aa r0 (ak (fun _=>?_) (fun h=>absurd (show aj w (((A.getD default).add 0).add 0)<128 by omega) h))))
 have e:=gr (s:=0) (x:=0) (y:=k) (X:=0) rfl v0' (by omega) (by omega) (by omega)
 have hv:u64.wrap (((BitVec.ofInt 64 (0:Int) |||BitVec.ofInt 64 (u64.wrap (u64.wrap (aj w (((A.getD default).add 0).add 0))*(2:Int)^0))).toNat:Nat):Int)=(k:Int):=by rw[e];simp
 rw[hv]
 exact ae (fun _=>aQ (Fine.start _ _) fun β w' _ _=>rfl) (fun _=>aQ (Fine.start _ _) fun β w' _ _=>rfl)
theorem PL(A:Option Addr)(n c k:Nat)(rest:List UInt8)(B:Nat)(w:World)(h:Bts w B A n (uv k++rest))(hB:B<=w.heap.size)(h1:¬k<128)(hl:k/128<128) :
  Calls Tryz.prog 142 #[.slice A n c] w (bB (fun v _=>v=.tuple #[.int .u64 k,.int .i64 (uv k).length,.nilIface]) w):=by
 have hn:=h.1
 rw[cx h1,bO hl]at h hn ⊢
 simp only[List.length_append,List.length_cons,List.length_nil]at hn
 obtain⟨a0,r0,v0⟩:=bu (bs:=[]) h hB (Below.refl _ _) (by simp) 0 (by omega)
 have w0:aj w (((A.getD default).add 0).add 0)=((k%128+128:Nat):Int):=by rw[v0];show((UInt8.ofNat (k%128+128)).toNat:Int)=_;rw[zm (by omega)]
 obtain⟨a1,r1,v1⟩:=bu (bs:=[]) h hB (Below.refl _ _) (by simp) 1 (by omega)
 have w1:aj w (((A.getD default).add 1).add 0)=((k/128:Nat):Int):=by rw[v1];show((UInt8.ofNat (k/128)).toNat:Int)=_;rw[zm (by omega)]
 have e1:i64.wrap ((0:Int)+(1:Int))=1:=by decide
 have o0:=gr (s:=0) (y:=k%128) (x:=0) (X:=0) rfl (eK w0 (by omega)) (by omega) (by omega) (by omega)
 have o1:=gr (s:=7) (y:=k/128) o0 w1 (by omega) (by omega) (by omega)
 refine aF (hk:=ar) (n:=6000) (args:=[.xs A n c]) ⟨trivial,trivial⟩ ?_
 refine ah (K2 A n c w) ?_
 refine ak (fun _=>?_) (fun h=>absurd (show(0:Int)<(n:Int) by omega) h)
 refine aa (by omega) (aa a0 (aa r0 ?_))
 refine ak (fun h=>absurd h (by rw[w0];omega)) (fun _=>?_)
 refine ak (fun _=>?_) (fun h=>absurd (show i64.wrap ((0:Int)+(1:Int))<(n:Int) by rw[e1];omega) h)
 refine aa (by rw[e1];omega) (aa a1 (aa r1 ?_))
 refine ak (fun _=>?_) (fun h=>absurd (show aj w (((A.getD default).add 1).add 0)<128 by rw[w1];omega) h)
 refine ae (fun h=>?_) (fun _=>?_)
 ·rw[w1]at h
  have:=eq_of_beq h
  omega
 rw[o1]
 refine aQ (Fine.start _ _) fun β w' _ _=>?_
 rw[show k/128*2^7+(k%128*2^0+0)=k by omega]
 rfl
theorem PM(A:Option Addr)(n c k:Nat)(rest:List UInt8)(B:Nat)(w:World)(h:Bts w B A n (uv k++rest))(hB:B<=w.heap.size)(h1:¬k<128)(h2:¬k/128<128)(hl:k/128/128<128) :
  Calls Tryz.prog 142 #[.slice A n c] w (bB (fun v _=>v=.tuple #[.int .u64 k,.int .i64 (uv k).length,.nilIface]) w):=by
 have hn:=h.1
 rw[cx h1,cx h2,bO hl]at h hn ⊢
 simp only[List.length_append,List.length_cons,List.length_nil]at hn
 obtain⟨a0,r0,v0⟩:=bu (bs:=[]) h hB (Below.refl _ _) (by simp) 0 (by omega)
 have w0:aj w (((A.getD default).add 0).add 0)=((k%128+128:Nat):Int):=by rw[v0];show((UInt8.ofNat (k%128+128)).toNat:Int)=_;rw[zm (by omega)]
 obtain⟨a1,r1,v1⟩:=bu (bs:=[]) h hB (Below.refl _ _) (by simp) 1 (by omega)
 have w1:aj w (((A.getD default).add 1).add 0)=((k/128%128+128:Nat):Int):=by rw[v1];show((UInt8.ofNat (k/128%128+128)).toNat:Int)=_;rw[zm (by omega)]
 have e1:i64.wrap ((0:Int)+(1:Int))=1:=by decide
 obtain⟨a2,r2,v2⟩:=bu (bs:=[]) h hB (Below.refl _ _) (by simp) 2 (by omega)
 have w2:aj w (((A.getD default).add 2).add 0)=((k/128/128:Nat):Int):=by rw[v2];show((UInt8.ofNat (k/128/128)).toNat:Int)=_;rw[zm (by omega)]
 have e2:i64.wrap (i64.wrap ((0:Int)+(1:Int))+(1:Int))=2:=by decide
 have o0:=gr (s:=0) (y:=k%128) (x:=0) (X:=0) rfl (eK w0 (by omega)) (by omega) (by omega) (by omega)
 have o1:=gr (s:=7) (y:=k/128%128) o0 (eK w1 (by omega)) (by omega) (by omega) (by omega)
 have o2:=gr (s:=14) (y:=k/128/128) o1 w2 (by omega) (by omega) (by omega)
 refine aF (hk:=ar) (n:=6000) (args:=[.xs A n c]) ⟨trivial,trivial⟩ ?_
 refine ah (K2 A n c w) ?_
 refine ak (fun _=>?_) (fun h=>absurd (show(0:Int)<(n:Int) by omega) h)
 refine aa (by omega) (aa a0 (aa r0 ?_))
 refine ak (fun h=>absurd h (by rw[w0];omega)) (fun _=>?_)
 refine ak (fun _=>?_) (fun h=>absurd (show i64.wrap ((0:Int)+(1:Int))<(n:Int) by rw[e1];omega) h)
 refine aa (by rw[e1];omega) (aa a1 (aa r1 ?_))
 refine ak (fun h=>absurd h (by rw[w1];omega)) (fun _=>?_)
 refine ak (fun _=>?_) (fun h=>absurd (show i64.wrap (i64.wrap ((0:Int)+(1:Int))+(1:Int))<(n:Int) by rw[e2];omega) h)
 refine aa (by rw[e2];omega) (aa a2 (aa r2 ?_))
 refine ak (fun _=>?_) (fun h=>absurd (show aj w (((A.getD default).add 2).add 0)<128 by rw[w2];omega) h)
 refine ae (fun h=>?_) (fun _=>?_)
 ·rw[w2]at h
  have:=eq_of_beq h
  omega
 rw[o2]
 refine aQ (Fine.start _ _) fun β w' _ _=>?_
 rw[show k/128/128*2^14+(k/128%128*2^7+(k%128*2^0+0))=k by omega]
 rfl
theorem PN(A:Option Addr)(n c k:Nat)(rest:List UInt8)(B:Nat)(w:World)(h:Bts w B A n (uv k++rest))(hB:B<=w.heap.size)(h1:¬k<128)(h2:¬k/128<128)(h3:¬k/128/128<128)(hl:k/128/128/128<128) :
  Calls Tryz.prog 142 #[.slice A n c] w (bB (fun v _=>v=.tuple #[.int .u64 k,.int .i64 (uv k).length,.nilIface]) w):=by
 have hn:=h.1
 rw[cx h1,cx h2,cx h3,bO hl]at h hn ⊢
 simp only[List.length_append,List.length_cons,List.length_nil]at hn
 obtain⟨a0,r0,v0⟩:=bu (bs:=[]) h hB (Below.refl _ _) (by simp) 0 (by omega)
 have w0:aj w (((A.getD default).add 0).add 0)=((k%128+128:Nat):Int):=by rw[v0];show((UInt8.ofNat (k%128+128)).toNat:Int)=_;rw[zm (by omega)]
 obtain⟨a1,r1,v1⟩:=bu (bs:=[]) h hB (Below.refl _ _) (by simp) 1 (by omega)
 have w1:aj w (((A.getD default).add 1).add 0)=((k/128%128+128:Nat):Int):=by rw[v1];show((UInt8.ofNat (k/128%128+128)).toNat:Int)=_;rw[zm (by omega)]
 have e1:i64.wrap ((0:Int)+(1:Int))=1:=by decide
 obtain⟨a2,r2,v2⟩:=bu (bs:=[]) h hB (Below.refl _ _) (by simp) 2 (by omega)
 have w2:aj w (((A.getD default).add 2).add 0)=((k/128/128%128+128:Nat):Int):=by rw[v2];show((UInt8.ofNat (k/128/128%128+128)).toNat:Int)=_;rw[zm (by omega)]
 have e2:i64.wrap (i64.wrap ((0:Int)+(1:Int))+(1:Int))=2:=by decide
 obtain⟨a3,r3,v3⟩:=bu (bs:=[]) h hB (Below.refl _ _) (by simp) 3 (by omega)
 have w3:aj w (((A.getD default).add 3).add 0)=((k/128/128/128:Nat):Int):=by rw[v3];show((UInt8.ofNat (k/128/128/128)).toNat:Int)=_;rw[zm (by omega)]
 have e3:i64.wrap (i64.wrap (i64.wrap ((0:Int)+(1:Int))+(1:Int))+(1:Int))=3:=by decide
 have o0:=gr (s:=0) (y:=k%128) (x:=0) (X:=0) rfl (eK w0 (by omega)) (by omega) (by omega) (by omega)
 have o1:=gr (s:=7) (y:=k/128%128) o0 (eK w1 (by omega)) (by omega) (by omega) (by omega)
 have o2:=gr (s:=14) (y:=k/128/128%128) o1 (eK w2 (by omega)) (by omega) (by omega) (by omega)
 have o3:=gr (s:=21) (y:=k/128/128/128) o2 w3 (by omega) (by omega) (by omega)
 refine aF (hk:=ar) (n:=6000) (args:=[.xs A n c]) ⟨trivial,trivial⟩ ?_
 refine ah (K2 A n c w) ?_
 refine ak (fun _=>?_) (fun h=>absurd (show(0:Int)<(n:Int) by omega) h)
 refine aa (by omega) (aa a0 (aa r0 ?_))
 refine ak (fun h=>absurd h (by rw[w0];omega)) (fun _=>?_)
 refine ak (fun _=>?_) (fun h=>absurd (show i64.wrap ((0:Int)+(1:Int))<(n:Int) by rw[e1];omega) h)
 refine aa (by rw[e1];omega) (aa a1 (aa r1 ?_))
 refine ak (fun h=>absurd h (by rw[w1];omega)) (fun _=>?_)
 refine ak (fun _=>?_) (fun h=>absurd (show i64.wrap (i64.wrap ((0:Int)+(1:Int))+(1:Int))<(n:Int) by rw[e2];omega) h)
 refine aa (by rw[e2];omega) (aa a2 (aa r2 ?_))
 refine ak (fun h=>absurd h (by rw[w2];omega)) (fun _=>?_)
 refine ak (fun _=>?_) (fun h=>absurd (show i64.wrap (i64.wrap (i64.wrap ((0:Int)+(1:Int))+(1:Int))+(1:Int))<(n:Int) by rw[e3];omega) h)
 refine aa (by rw[e3];omega) (aa a3 (aa r3 ?_))
 refine ak (fun _=>?_) (fun h=>absurd (show aj w (((A.getD default).add 3).add 0)<128 by rw[w3];omega) h)
 refine ae (fun h=>?_) (fun _=>?_)
 ·rw[w3]at h
  have:=eq_of_beq h
  omega
 rw[o3]
 refine aQ (Fine.start _ _) fun β w' _ _=>?_
 rw[show k/128/128/128*2^21+(k/128/128%128*2^14+(k/128%128*2^7+(k%128*2^0+0)))=k by omega]
 rfl
theorem PO(A:Option Addr)(n c k:Nat)(rest:List UInt8)(B:Nat)(w:World)(h:Bts w B A n (uv k++rest))(hB:B<=w.heap.size)(h1:¬k<128)(h2:¬k/128<128)(h3:¬k/128/128<128)(h4:¬k/128/128/128<128)(hl:k/128/128/128/128<128) :
  Calls Tryz.prog 142 #[.slice A n c] w (bB (fun v _=>v=.tuple #[.int .u64 k,.int .i64 (uv k).length,.nilIface]) w):=by
 have hn:=h.1
 rw[cx h1,cx h2,cx h3,cx h4,bO hl]at h hn ⊢
 simp only[List.length_append,List.length_cons,List.length_nil]at hn
 obtain⟨a0,r0,v0⟩:=bu (bs:=[]) h hB (Below.refl _ _) (by simp) 0 (by omega)
 have w0:aj w (((A.getD default).add 0).add 0)=((k%128+128:Nat):Int):=by rw[v0];show((UInt8.ofNat (k%128+128)).toNat:Int)=_;rw[zm (by omega)]
 obtain⟨a1,r1,v1⟩:=bu (bs:=[]) h hB (Below.refl _ _) (by simp) 1 (by omega)
 have w1:aj w (((A.getD default).add 1).add 0)=((k/128%128+128:Nat):Int):=by rw[v1];show((UInt8.ofNat (k/128%128+128)).toNat:Int)=_;rw[zm (by omega)]
 have e1:i64.wrap ((0:Int)+(1:Int))=1:=by decide
 obtain⟨a2,r2,v2⟩:=bu (bs:=[]) h hB (Below.refl _ _) (by simp) 2 (by omega)
 have w2:aj w (((A.getD default).add 2).add 0)=((k/128/128%128+128:Nat):Int):=by rw[v2];show((UInt8.ofNat (k/128/128%128+128)).toNat:Int)=_;rw[zm (by omega)]
 have e2:i64.wrap (i64.wrap ((0:Int)+(1:Int))+(1:Int))=2:=by decide
 obtain⟨a3,r3,v3⟩:=bu (bs:=[]) h hB (Below.refl _ _) (by simp) 3 (by omega)
 have w3:aj w (((A.getD default).add 3).add 0)=((k/128/128/128%128+128:Nat):Int):=by rw[v3];show((UInt8.ofNat (k/128/128/128%128+128)).toNat:Int)=_;rw[zm (by omega)]
 have e3:i64.wrap (i64.wrap (i64.wrap ((0:Int)+(1:Int))+(1:Int))+(1:Int))=3:=by decide
 obtain⟨a4,r4,v4⟩:=bu (bs:=[]) h hB (Below.refl _ _) (by simp) 4 (by omega)
 have w4:aj w (((A.getD default).add 4).add 0)=((k/128/128/128/128:Nat):Int):=by rw[v4];show((UInt8.ofNat (k/128/128/128/128)).toNat:Int)=_;rw[zm (by omega)]
 have e4:i64.wrap (i64.wrap (i64.wrap (i64.wrap ((0:Int)+(1:Int))+(1:Int))+(1:Int))+(1:Int))=4:=by decide
 have o0:=gr (s:=0) (y:=k%128) (x:=0) (X:=0) rfl (eK w0 (by omega)) (by omega) (by omega) (by omega)
 have o1:=gr (s:=7) (y:=k/128%128) o0 (eK w1 (by omega)) (by omega) (by omega) (by omega)
 have o2:=gr (s:=14) (y:=k/128/128%128) o1 (eK w2 (by omega)) (by omega) (by omega) (by omega)
 have o3:=gr (s:=21) (y:=k/128/128/128%128) o2 (eK w3 (by omega)) (by omega) (by omega) (by omega)
 have o4:=gr (s:=28) (y:=k/128/128/128/128) o3 w4 (by omega) (by omega) (by omega)
 refine aF (hk:=ar) (n:=6000) (args:=[.xs A n c]) ⟨trivial,trivial⟩ ?_
 refine ah (K2 A n c w) ?_
 refine ak (fun _=>?_) (fun h=>absurd (show(0:Int)<(n:Int) by omega) h)
 refine aa (by omega) (aa a0 (aa r0 ?_))
 refine ak (fun h=>absurd h (by rw[w0];omega)) (fun _=>?_)
 refine ak (fun _=>?_) (fun h=>absurd (show i64.wrap ((0:Int)+(1:Int))<(n:Int) by rw[e1];omega) h)
 refine aa (by rw[e1];omega) (aa a1 (aa r1 ?_))
 refine ak (fun h=>absurd h (by rw[w1];omega)) (fun _=>?_)
 refine ak (fun _=>?_) (fun h=>absurd (show i64.wrap (i64.wrap ((0:Int)+(1:Int))+(1:Int))<(n:Int) by rw[e2];omega) h)
 refine aa (by rw[e2];omega) (aa a2 (aa r2 ?_))
 refine ak (fun h=>absurd h (by rw[w2];omega)) (fun _=>?_)
 refine ak (fun _=>?_) (fun h=>absurd (show i64.wrap (i64.wrap (i64.wrap ((0:Int)+(1:Int))+(1:Int))+(1:Int))<(n:Int) by rw[e3];omega) h)
 refine aa (by rw[e3];omega) (aa a3 (aa r3 ?_))
 refine ak (fun h=>absurd h (by rw[w3];omega)) (fun _=>?_)
 refine ak (fun _=>?_) (fun h=>absurd (show i64.wrap (i64.wrap (i64.wrap (i64.wrap ((0:Int)+(1:Int))+(1:Int))+(1:Int))+(1:Int))<(n:Int) by rw[e4];omega) h)
 refine aa (by rw[e4];omega) (aa a4 (aa r4 ?_))
 refine ak (fun _=>?_) (fun h=>absurd (show aj w (((A.getD default).add 4).add 0)<128 by rw[w4];omega) h)
 refine ae (fun h=>?_) (fun _=>?_)
 ·rw[w4]at h
  have:=eq_of_beq h
  omega
 rw[o4]
 refine aQ (Fine.start _ _) fun β w' _ _=>?_
 rw[show k/128/128/128/128*2^28+(k/128/128/128%128*2^21+(k/128/128%128*2^14+(k/128%128*2^7+(k%128*2^0+0))))=k by omega]
 rfl
theorem sF(A:Option Addr)(n c k:Nat)(rest:List UInt8)(B:Nat)(w:World)(h:Bts w B A n (uv k++rest))(hB:B<=w.heap.size)(hk:k<2^35) :
  Calls Tryz.prog 142 #[.slice A n c] w (bB (fun v _=>v=.tuple #[.int .u64 k,.int .i64 (uv k).length,.nilIface]) w):=by
 by_cases h1:k<128
 ·exact PK A n c k rest B w h hB h1
 by_cases h2:k/128<128
 ·exact PL A n c k rest B w h hB h1 h2
 by_cases h3:k/128/128<128
 ·exact PM A n c k rest B w h hB h1 h2 h3
 by_cases h4:k/128/128/128<128
 ·exact PN A n c k rest B w h hB h1 h2 h3 h4
 ·exact PO A n c k rest B w h hB h1 h2 h3 h4 (by omega)
theorem f6(A:Option Addr)(n c k:Nat)(rest:List UInt8)(B:Nat)(w:World)(h:Bts w B A n (uv k++rest))(hB:B<=w.heap.size)(hk:k<=2147483647) :
  Calls Tryz.prog 96 #[.slice A n c] w (bB (fun v _=>v=.tuple #[.int .i64 k,.int .i64 (uv k).length,.nilIface]) w):=by
 refine aF (hk:=KN) (n:=6000) (args:=[.xs A n c]) ⟨trivial,trivial⟩ ?_
 refine ah (Qp A n c w) ?_
 refine hO (R:=fun(z:VN) _ _=>z=⟨k,(uv k).length⟩) (fun x=>⟨rfl,trivial,trivial,trivial,trivial⟩) (fun β wc hb=>?_) ?_
 ·refine(sF A n c k rest B wc (h.below (hb.mono hB) (Nat.le_refl _)) (Nat.le_trans hB hb.size) (by omega)).mono ?_
  rintro e w' ⟨v,rfl,rfl,hb'⟩
  exact⟨⟨k,(uv k).length⟩,rfl,hb',rfl⟩
 ·rintro z wc w1 hwc rfl hb
  refine ak (fun h=>absurd (show(k:Int) > 2147483647 from h) (by omega)) (fun _=>?_)
  refine aQ (Fine.nil (hwc.trans (hb.mono hwc.size))) fun β w' _ _=>?_
  show Value.tuple #[.int .i64 (i64.wrap (k:Int)),_,_]=_
  rw[aq (by omega) (by omega)]
  rfl
end
section
open Go Go.Rx Go.RowKit
theorem pI{Q:SE->List Value->World->Prop}{s:SS}{w:World}{f:FuncId}{key:Int}{lit:Bool}{s0:SS}{k:PV->World->List Nat->T}(hf:Fine w s)(hs0:s0.objs=s.objs)
  (hc:∀w0,Below w.heap.size w w0->Calls Tryz.prog f #[.int .i64 key] w0 (bB (J9 key w0) w0))
  (hk:∀x w0 w' bs,x.Is key->Fresh w0 x.A->Bts w' w'.heap.size x.A x.n (ai key).vc->Below w.heap.size w w0->Below w0.heap.size w0 w'->Below w.heap.size w w'->(∀b∈bs,w.heap.size<=b/\b<w0.heap.size)->(k x w' bs).holds (c8 Tryz.prog Q)) :
  (T.call f [.int .i64 key lit] s (Hook.X bh) (Hook.out bh [.int .i64 key lit] s0) k).holds (c8 Tryz.prog Q):=by
 refine c7 (Γ:=c8 Tryz.prog Q) (R:=fun(x:PV) w0 w'=>x.Is key/\Fresh w0 x.A/\Bts w' w'.heap.size x.A x.n (ai key).vc) hf (fun x=>⟨hs0,trivial,trivial,trivial,trivial,trivial,trivial,trivial⟩) (fun β w0 hst ho hb=>?_)
  (fun x w0 w' bs hb0 hr hb1 hb hbs=>hk x w0 w' bs hr.1 hr.2.1 hr.2.2 hb0 hb1 hb hbs)
 refine(hc w0 hb).mono ?_
 rintro e w' ⟨v,rfl,⟨x,rfl,h1⟩,hb'⟩
 exact⟨x,rfl,hb',h1⟩
theorem Bz(k:Int)(hk:k∈bc)(w:World):Calls Tryz.prog 67 #[.int .i64 k] w (bB (J9 k w) w):=by
 refine aF (hk:=F1) (n:=200) (args:=[.int .i64 k false]) ⟨trivial,trivial⟩ ?_
 rw[Q9]
 refine pI (Fine.start _ _) rfl (fun w0 _=>AZ k hk w0) fun x w0 w' bs h1 h3 h4 hb0 hb1 hb hbs=>?_
 refine aQ (Fine.mk' hb fun b hb=>(hbs b hb).1) fun β w2 hst hb2=>⟨x,rfl,h1,h3.mono hb0.size,?_⟩
 have o:=hst.old rfl
 exact(o.bts h4 (Nat.le_refl _) (h3.notin fun b hb=>(hbs b hb).2)).mono o.sz
def ProtB(w:World)(B b:Nat)(k:Int):Prop:=b<B/\∃A c,w.heap[b]?=some (.cells #[.string ⟨(ai k).name.toArray⟩,.int .i64 k,.slice A (ai k).vc.length c,.int .i64 (ai k).size,.bool (ai k).path,(ai k).tr] 88 (0,0)) /\
 Bts w B A (ai k).vc.length (ai k).vc/\(ai k).vc.length<=c
theorem ProtB.below{w w':World}{B B' b:Nat}{k:Int}(h:ProtB w B b k)(hb:Below B w w')(hB:B<=B'):ProtB w' B' b k:=by
 obtain⟨h1,A,c,h2,h3,h4⟩:=h
 exact⟨by omega,A,c,by rw[hb.block b h1];exact h2,h3.below hb hB,h4⟩
theorem ProtB.old{β:Nat->Nat}{s:SS}{w:World}{B b:Nat}{k:Int}(o:Old β s w)(h:ProtB s.w0 B b k)(hB:B<=s.w0.heap.size)(hn:∀i∈s.pre,i≠b/\(∀A c,s.w0.heap[b]?=some (.cells #[.string ⟨(ai k).name.toArray⟩,.int .i64 k,.slice A (ai k).vc.length c,.int .i64 (ai k).size,.bool (ai k).path,(ai k).tr] 88 (0,0))->∀a,A=some a->a.block≠i)):ProtB w B b k:=by
 obtain⟨h1,A,c,h2,h3,h4⟩:=h
 refine⟨h1,A,c,?_,o.bts h3 hB fun a ha hm=>(hn _ hm).2 A c h2 a ha rfl,h4⟩
 rw[o.heap (Nat.lt_of_lt_of_le h1 hB) fun hm=>(hn _ hm).1 rfl]
 exact h2
def ProtN(w:World)(b:Nat)(k:Int)(w':World):Prop:=w.heap.size<=b/\b<w'.heap.size/\∃A c,w'.heap[b]?=some (.cells #[.string ⟨(ai k).name.toArray⟩,.int .i64 k,.slice A (ai k).vc.length c,.int .i64 (ai k).size,.bool (ai k).path,(ai k).tr] 88 (0,0)) /\
 Bts w' w'.heap.size A (ai k).vc.length (ai k).vc/\(ai k).vc.length<=c/\Fresh w A
theorem ProtN.b{w w':World}{b:Nat}{k:Int}(h:ProtN w b k w'):ProtB w' w'.heap.size b k:=by
 obtain⟨_,h1,A,c,h2,h3,h4,_⟩:=h
 exact⟨h1,A,c,h2,h3,h4⟩
theorem ProtN.old{β:Nat->Nat}{s:SS}{w0 w:World}{b:Nat}{k:Int}(o:Old β s w)(h:ProtN w0 b k s.w0)(hp:∀i∈s.pre,i<w0.heap.size):ProtN w0 b k w:=by
 obtain⟨h0,h1,A,c,h2,h3,h4,h5⟩:=h
 refine⟨h0,Nat.lt_of_lt_of_le h1 o.sz,A,c,?_,(o.bts h3 (Nat.le_refl _) fun a ha hm=>?_).mono o.sz,h4,h5⟩
 ·rw[o.heap h1 fun hm=>by have:=hp _ hm;omega]
  exact h2
 ·have:=hp _ hm
  have:=h5 a ha
  omega
theorem ProtN.from{w w1 w':World}{b:Nat}{k:Int}(h:ProtN w1 b k w')(hz:w.heap.size<=w1.heap.size):ProtN w b k w':=by
 obtain⟨h0,h1,A,c,h2,h3,h4,h5⟩:=h
 exact⟨by omega,h1,A,c,h2,h3,h4,h5.mono hz⟩
theorem Ew(k:Int)(hk:k∈bc)(w:World):Calls Tryz.prog 85 #[.int .i64 k] w (bB (fun v w'=>∃b,v=.pointer (some ⟨b,0,none⟩)/\ProtN w b k w') w):=by
 refine aF (hk:=F1) (n:=200) (args:=[.int .i64 k false]) ⟨trivial,trivial⟩ ?_
 rw[Rb]
 refine pI (Fine.start _ _) rfl (fun w0 _=>AZ k hk w0) fun x w0 w' bs hx h3 h4 hb0 hb1 hb hbs=>?_
 have hbs':∀b∈bs,w.heap.size<=b:=fun b hb=>(hbs b hb).1
 refine ae (fun h0=>?_) (fun _=>aQ (Fine.mk' hb hbs') fun β w2 hst hb2=>?_)
 ·have:k=0:=by simpa using h0
  subst this
  exact absurd hk (by decide)
 ·have o:=hst.old rfl
  obtain⟨rest,e1,e2⟩:=hst.at_ 0 _ rfl
  have hr:rest=[]:=by simpa using e2
  subst hr
  have hn:=h4.1
  refine⟨β 0,rfl,(Fine.mk' hb hbs').new o 0 (by simp[SS.n]),hst.lt 0 (by simp[SS.n]),x.A,x.c,?_,?_,?_,h3.mono hb0.size⟩
  ·rw[e1]
   simp only[af,SV.den,hx.name,hx.size,hx.path,hx.tr,hn]
   rfl
  ·rw[<- hn]
   exact(o.bts h4 (Nat.le_refl _) (h3.notin fun b hb=>(hbs b hb).2)).mono o.sz
  ·rw[<- hn]
   exact hx.cap
def bW(k:Int)(val:List UInt8):List UInt8:=(ai k).vc++(if(ai k).size<0 then uv val.length else[])
def GF(k:Int)(val:List UInt8)(w:World)(v:Value)(w':World):Prop:=
 ∃b,v=.agg #[.string ⟨(bW k val++val).toArray⟩,.pointer (some ⟨b,0,none⟩),.int .i64 ((bW k val).length:Int)]/\ProtN w b k w'
theorem Co{w w1:World}{bs:List Nat}{k:Int}{val pre:List UInt8}{objs:List SObj}{objs':Addr->List SObj}{L:List Value}{N M N':Nat}{lit:Bool}(hk:k∈bc)(hh:bW k val=pre)(hb:Below w.heap.size w w1)(hbs:∀b∈bs,w.heap.size<=b)
  (hM:N<=M) (hL:L=(pre++val).map Ix) (hN:N'=pre.length) :
  (T.need (k=k) (T.need (N<=M/\ci L) (T.call 85 [.int .i64 k lit] (SS.mk objs [] true w1 bs) Addr (fun x=>(.xp x,objs)) fun x3 w3 b3=>
   (.leaf .ret [.agg [.str (bytesOf (List.map aM L)) false,.xp x3,.int .i64 (N':Int) false]] (SS.mk (objs' x3) [] true w3 b3))))).holds (c8 Tryz.prog (bH fun v w'=>GF k val w v w'/\Below w.heap.size w w')):=by
 subst hL hN
 refine aa rfl (aa ⟨hM,tN _⟩ ?_)
 refine c7 (Γ:=c8 Tryz.prog _) (R:=fun p w0 w'=>∃b,p=⟨b,0,none⟩/\ProtN w0 b k w') (Fine.mk' hb hbs) (fun x=>⟨rfl,trivial⟩) (fun β w0 hst ho hb=>?_) (fun p w0 w' bs' hb0 hr hb1 hb2 hbs'=>?_)
 ·refine(Ew k hk w0).mono ?_
  rintro e w' ⟨v,rfl,⟨b,rfl,h1⟩,hb'⟩
  exact⟨⟨b,0,none⟩,rfl,hb',b,rfl,h1⟩
 ·obtain⟨b,rfl,h1⟩:=hr
  refine aQ (Fine.mk' hb2 fun b hb=>(hbs' b hb).1) fun β w2 hst hb3=>⟨b,?_,?_⟩
  ·rw[tQ,hh];rfl
  ·exact(h1.old (hst.old rfl) fun i hi=>(hbs' i hi).2).from hb0.size
theorem Gv{Q:SE->List Value->World->Prop}{s:SS}{w:World}{n:Nat}{lit:Bool}{a0:List SV}{s0:SS}{k:UV->World->List Nat->T}(hf:Fine w s)(hs0:s0.objs=s.objs)(hn:n<2^63)
  (hk:∀x w0 w' bs,Fresh w0 x.A->Bts w' w'.heap.size x.A x.k (uv n)->Below w.heap.size w w0->Below w0.heap.size w0 w'->Below w.heap.size w w'->(∀b∈bs,w.heap.size<=b/\b<w0.heap.size)->(k x w' bs).holds (c8 Tryz.prog Q)) :
  (T.call 69 [.int .u64 (u64.wrap (n:Int)) lit] s (Hook.X bn) (Hook.out bn a0 s0) k).holds (c8 Tryz.prog Q):=by
 have e:u64.wrap (n:Int)=n:=by
  simp[IntKind.wrap,IntKind.bits,IntKind.signed]
  omega
 refine c7 (Γ:=c8 Tryz.prog Q) (R:=fun(x:UV) w0 w'=>Fresh w0 x.A/\Bts w' w'.heap.size x.A x.k (uv n)) hf (fun x=>⟨hs0,trivial⟩) (fun β w0 hst ho hb=>?_)
  (fun x w0 w' bs hb0 hr hb1 hb hbs=>hk x w0 w' bs hr.1 hr.2 hb0 hb1 hb hbs)
 rw[e]
 refine(C0 n w0 (by omega)).mono ?_
 rintro e w' ⟨v,rfl,⟨A,kk,c,rfl,_,h1,h2⟩,hb'⟩
 exact⟨⟨A,kk,c⟩,rfl,hb',h2,h1⟩
theorem I7(k:Int)(hk:k∈bc)(A:Option Addr)(n c:Nat)(val:List UInt8)(B:Nat)(w:World)(h:Bts w B A n val)(hB:B<=w.heap.size)(hn:(n:Int)<2^46) :
  Calls Tryz.prog 39 #[.agg #[.int .i64 k,.slice A n c]] w (bB (GF k val w) w):=by
 have hn':=h.1
 subst hn'
 refine aF (hk:=KB) (n:=500) (args:=[.agg [.int .i64 k false,.xs A val.length c]]) ⟨⟨trivial,trivial,trivial⟩,trivial⟩ ?_
 rw[Q7]
 refine pI (Fine.start _ _) rfl (fun w0 _=>Bz k hk w0) fun x w0 w1 bs hx h3 h4 hb0 hb1 hb hbs=>?_
 have hn0:=h4.1
 have hsz:=hx.size
 obtain⟨h1,h2⟩:=dh k hk
 obtain⟨nm,A0,n0,c0,sz,pth,tr⟩:=x
 dsimp only at *
 subst hn0 hsz
 have hd1:(ai k).size<0->bW k val=(ai k).vc++uv val.length:=fun h=>by unfold bW;rw[if_pos h]
 have hd2:¬(ai k).size<0->bW k val=(ai k).vc:=fun h=>by unfold bW;rw[if_neg h,List.append_nil]
 generalize (ai k).vc=l0 at *
 have hbs':∀b∈bs,w.heap.size<=b:=fun b hb=>(hbs b hb).1
 have hA:Bts w1 B A val.length val:=h.below (hb.mono hB) (Nat.le_refl _)
 have hcA:canBytes w1 bs A val.length:=hA.canBytes (Nat.le_trans hB hb.size) fun b hb=>Nat.le_trans hB (hbs' b hb)
 rw[h4.vals,hA.vals]
 refine ae (fun h0=>?_) fun _=>aa (h4.canBytesN (Nat.le_refl _) (h3.notin fun b hb=>(hbs b hb).2)) (ak (fun h0=>by omega) fun _=>aa ?_ (aD ?_))
 ·have:k=0:=by simpa using h0
  subst this
  exact absurd hk (by decide)
 ·exact⟨Nat.le_refl _,xB (by omega) (by omega),by rw[bj];omega⟩
 intro c1 _
 refine ae (fun hneg=>?_) (fun hneg=>aa hcA (ak (fun hc=>aa ?_ ?_) (fun hc=>aa ?_ (aD ?_))))
 ·have hd1:=hd1 (by simpa using hneg)
  refine Gv (a0:=[]) (Fine.mk' hb hbs') rfl (by omega) fun y w2 w3 bs2 g2 g3 gb0 gb1 gb2 gbs=>?_
  have hn1:=g3.1
  have g1:=iP 9 val.length (by omega)
  generalize uv val.length=l1 at *
  obtain⟨A1,n1,c1'⟩:=y
  dsimp only at *
  subst hn1
  have gbs':∀b∈bs2,w.heap.size<=b:=fun b hb=>(gbs b hb).1
  have gA:Bts w3 B A val.length val:=h.below (gb2.mono hB) (Nat.le_refl _)
  have gcA:canBytes w3 bs2 A val.length:=gA.canBytes (Nat.le_trans hB gb2.size) fun b hb=>Nat.le_trans hB (gbs' b hb)
  rw[g3.vals,gA.vals]
  refine aa (g3.canBytesN (Nat.le_refl _) (g2.notin fun b hb=>(gbs b hb).2)) (ak (fun hc=>aa ?_ (aa gcA (ak (fun hd=>aa ?_ ?_) (fun hd=>aa ?_ (aD ?_))))) (fun hc=>aa ?_ (aD ?_)))
  ·(refine⟨?_,?_,?_⟩ <;> (first |(simp[di,af,an,List.take_of_length_le,Nat.add_assoc];done) |(simp[di,af,an,List.take_of_length_le,Nat.add_assoc] <;> omega)))
  ·(refine⟨?_,?_,?_⟩ <;> (first |(simp[di,af,an,List.take_of_length_le,Nat.add_assoc];done) |(simp[di,af,an,List.take_of_length_le,Nat.add_assoc] <;> omega)))
  ·exact Co (pre:=l0++l1) hk hd1 gb2 gbs' (by (first |(simp[di,af,an,List.take_of_length_le,Nat.add_assoc];done) |(simp[di,af,an,List.take_of_length_le,Nat.add_assoc] <;> omega))) (by (first |(simp[di,af,an,List.take_of_length_le,Nat.add_assoc];done) |(simp[di,af,an,List.take_of_length_le,Nat.add_assoc] <;> omega))) (by (first |(simp[di,af,an,List.take_of_length_le,Nat.add_assoc];done) |(simp[di,af,an,List.take_of_length_le,Nat.add_assoc] <;> omega)))
  ·exact⟨by (first |(simp[di,af,an,List.take_of_length_le,Nat.add_assoc];done) |(simp[di,af,an,List.take_of_length_le,Nat.add_assoc] <;> omega)),xB hd (by omega),by rw[bj];omega⟩
  ·intro c3 _
   exact Co (pre:=l0++l1) hk hd1 gb2 gbs' (by (first |(simp[di,af,an,List.take_of_length_le,Nat.add_assoc];done) |(simp[di,af,an,List.take_of_length_le,Nat.add_assoc] <;> omega))) (by (first |(simp[di,af,an,List.take_of_length_le,Nat.add_assoc];done) |(simp[di,af,an,List.take_of_length_le,Nat.add_assoc] <;> omega))) (by (first |(simp[di,af,an,List.take_of_length_le,Nat.add_assoc];done) |(simp[di,af,an,List.take_of_length_le,Nat.add_assoc] <;> omega)))
  ·exact⟨by (first |(simp[di,af,an,List.take_of_length_le,Nat.add_assoc];done) |(simp[di,af,an,List.take_of_length_le,Nat.add_assoc] <;> omega)),xB hc (by omega),by rw[bj];omega⟩
  ·intro c3 _
   refine aa gcA (ak (fun hd=>aa ?_ ?_) (fun hd=>aa ?_ (aD ?_)))
   ·(refine⟨?_,?_,?_⟩ <;> (first |(simp[di,af,an,List.take_of_length_le,Nat.add_assoc];done) |(simp[di,af,an,List.take_of_length_le,Nat.add_assoc] <;> omega)))
   ·exact Co (pre:=l0++l1) hk hd1 gb2 gbs' (by (first |(simp[di,af,an,List.take_of_length_le,Nat.add_assoc];done) |(simp[di,af,an,List.take_of_length_le,Nat.add_assoc] <;> omega))) (by (first |(simp[di,af,an,List.take_of_length_le,Nat.add_assoc];done) |(simp[di,af,an,List.take_of_length_le,Nat.add_assoc] <;> omega))) (by (first |(simp[di,af,an,List.take_of_length_le,Nat.add_assoc];done) |(simp[di,af,an,List.take_of_length_le,Nat.add_assoc] <;> omega)))
   ·exact⟨by (first |(simp[di,af,an,List.take_of_length_le,Nat.add_assoc];done) |(simp[di,af,an,List.take_of_length_le,Nat.add_assoc] <;> omega)),xB hd (by omega),by rw[bj];omega⟩
   ·intro c4 _
    exact Co (pre:=l0++l1) hk hd1 gb2 gbs' (by (first |(simp[di,af,an,List.take_of_length_le,Nat.add_assoc];done) |(simp[di,af,an,List.take_of_length_le,Nat.add_assoc] <;> omega))) (by (first |(simp[di,af,an,List.take_of_length_le,Nat.add_assoc];done) |(simp[di,af,an,List.take_of_length_le,Nat.add_assoc] <;> omega))) (by (first |(simp[di,af,an,List.take_of_length_le,Nat.add_assoc];done) |(simp[di,af,an,List.take_of_length_le,Nat.add_assoc] <;> omega)))
 ·(refine⟨?_,?_,?_⟩ <;> (first |(simp[di,af,an,List.take_of_length_le,Nat.add_assoc];done) |(simp[di,af,an,List.take_of_length_le,Nat.add_assoc] <;> omega)))
 ·exact Co (pre:=l0) hk (hd2 (by simpa using hneg)) hb hbs' (by (first |(simp[di,af,an,List.take_of_length_le,Nat.add_assoc];done) |(simp[di,af,an,List.take_of_length_le,Nat.add_assoc] <;> omega))) (by (first |(simp[di,af,an,List.take_of_length_le,Nat.add_assoc];done) |(simp[di,af,an,List.take_of_length_le,Nat.add_assoc] <;> omega))) (by (first |(simp[di,af,an,List.take_of_length_le,Nat.add_assoc];done) |(simp[di,af,an,List.take_of_length_le,Nat.add_assoc] <;> omega)))
 ·exact⟨by (first |(simp[di,af,an,List.take_of_length_le,Nat.add_assoc];done) |(simp[di,af,an,List.take_of_length_le,Nat.add_assoc] <;> omega)),xB hc (by omega),by rw[bj];omega⟩
 ·intro c2 _
  exact Co (pre:=l0) hk (hd2 (by simpa using hneg)) hb hbs' (by (first |(simp[di,af,an,List.take_of_length_le,Nat.add_assoc];done) |(simp[di,af,an,List.take_of_length_le,Nat.add_assoc] <;> omega))) (by (first |(simp[di,af,an,List.take_of_length_le,Nat.add_assoc];done) |(simp[di,af,an,List.take_of_length_le,Nat.add_assoc] <;> omega))) (by (first |(simp[di,af,an,List.take_of_length_le,Nat.add_assoc];done) |(simp[di,af,an,List.take_of_length_le,Nat.add_assoc] <;> omega)))
end
section
open Go Go.Rx Go.RowKit
structure PU where
 r:Nat
 l:List Int
def pJ(args:List SV)(l:List SObj)(v:List Int):List SObj:=
 match args with
 |[.slc id _ _ _ _ _,_]=>l.set id (.ints .u8 v 5 0 0)
 |_=>l
@[reducible] def gH:Hook:={ X:=PU,out:=fun args s x=>(.int .i64 x.r false,pJ args s.objs x.l) }
def KE:Hooks:={ calls:=fun f=>if f=85 then some bv else if f=89 then some bD else if f=90 then some gH else if f=91 then some cA else none,loops:=fun _ _=>none }
noncomputable abbrev lN(n:Nat)(x:PV)(x1:(Hook.X (bD))):Int:=(i64.wrap ((↑n:Int)+(↑x.n:Int))+(↑x1:Int))
noncomputable abbrev aW(n:Nat)(x:PV)(x1:(Hook.X (bD))):Int:=(i64.wrap (lN n x x1))
noncomputable abbrev bA(x:PV)(x2:(Hook.X (gH))):Int:=(i64.wrap ((0:Int)+(↑x.n:Int))+(↑x2.r:Int))
noncomputable abbrev yG:SObj:=(.cells [(.str (ByteArray.mk #[99,111,109,112,111,110,101,110,116,32,115,105,122,101,32,109,105,115,109,97,116,99,104,58,32,33,61]) true)] 1 107 0 0)
noncomputable abbrev sd:SV:=(.tup [(.one (.pointer none) rfl),(.ifc 105 (.ptr 2 0))])
noncomputable abbrev se:SV:=(.tup [(.ptr 2 0),(.one .nilIface rfl)])
noncomputable abbrev aZ(x:PV):Int:=(i64.wrap ((0:Int)+(↑x.n:Int)))
noncomputable abbrev ef(x:PV)(k:Int):SObj:=(.cells [(.str x.name false),(.int .i64 k false),(.xs x.A x.n x.c),(.int .i64 x.size false),(.bool x.path false),(.one (x.tr).1 (x.tr).2)] 6 88 0 0)
noncomputable abbrev Af(n:Nat)(x:PV)(x1:(Hook.X (bD)))(w1:World)(A:Option Addr):SObj:=(.ints .u8 (List.take (if(aW n x x1).toNat=(aZ x).toNat then 0 else 0+(aZ x).toNat*1) (List.take (if(aW n x x1).toNat=0 then 0 else 0) (List.replicate (aW n x x1).toNat (0:Int))++List.map aM (valsAt w1 x.A x.n)++List.drop ((if(aW n x x1).toNat=0 then 0 else 0)+x.n) (List.replicate (aW n x x1).toNat (0:Int)))++List.map aM (valsAt w1 A n)++List.drop ((if(aW n x x1).toNat=(aZ x).toNat then 0 else 0+(aZ x).toNat*1)+n) (List.take (if(aW n x x1).toNat=0 then 0 else 0) (List.replicate (aW n x x1).toNat (0:Int))++List.map aM (valsAt w1 x.A x.n)++List.drop ((if(aW n x x1).toNat=0 then 0 else 0)+x.n) (List.replicate (aW n x x1).toNat (0:Int)))) 5 0 0)
noncomputable abbrev Aa(x:PV)(k:Int)(n:Nat)(x1:(Hook.X (bD)))(w1:World)(A:Option Addr)(x0:(Hook.X (bv))):List SObj:=[(ef x k),(Af n x x1 w1 A),(.cells [(.str (bytesOf (List.take (aW n x x1).toNat (List.drop 0 (List.take (if(aW n x x1).toNat=(aZ x).toNat then 0 else 0+(aZ x).toNat*1) (List.take (if(aW n x x1).toNat=0 then 0 else 0) (List.replicate (aW n x x1).toNat (0:Int))++List.map aM (valsAt w1 x.A x.n)++List.drop ((if(aW n x x1).toNat=0 then 0 else 0)+x.n) (List.replicate (aW n x x1).toNat (0:Int)))++List.map aM (valsAt w1 A n)++List.drop ((if(aW n x x1).toNat=(aZ x).toNat then 0 else 0+(aZ x).toNat*1)+n) (List.take (if(aW n x x1).toNat=0 then 0 else 0) (List.replicate (aW n x x1).toNat (0:Int))++List.map aM (valsAt w1 x.A x.n)++List.drop ((if(aW n x x1).toNat=0 then 0 else 0)+x.n) (List.replicate (aW n x x1).toNat (0:Int))))))) false),(.xp x0),(.int .i64 (aZ x) false)] 3 64 0 0)]
noncomputable abbrev Ag(n:Nat)(x:PV)(x1:(Hook.X (bD)))(x2:(Hook.X (gH)))(w2:World)(A:Option Addr):SObj:=(.ints .u8 (List.take (if(aW n x x1).toNat=(i64.wrap (bA x x2)).toNat then 0 else 0+(i64.wrap (bA x x2)).toNat*1) x2.l++List.map aM (valsAt w2 A n)++List.drop ((if(aW n x x1).toNat=(i64.wrap (bA x x2)).toNat then 0 else 0+(i64.wrap (bA x x2)).toNat*1)+n) x2.l) 5 0 0)
noncomputable abbrev Ab(x:PV)(k:Int)(n:Nat)(x1:(Hook.X (bD)))(x2:(Hook.X (gH)))(w2:World)(A:Option Addr)(x0:(Hook.X (bv))):List SObj:=[(ef x k),(Ag n x x1 x2 w2 A),(.cells [(.str (bytesOf (List.take (aW n x x1).toNat (List.drop 0 (List.take (if(aW n x x1).toNat=(i64.wrap (bA x x2)).toNat then 0 else 0+(i64.wrap (bA x x2)).toNat*1) x2.l++List.map aM (valsAt w2 A n)++List.drop ((if(aW n x x1).toNat=(i64.wrap (bA x x2)).toNat then 0 else 0+(i64.wrap (bA x x2)).toNat*1)+n) x2.l)))) false),(.xp x0),(.int .i64 (i64.wrap (bA x x2)) false)] 3 64 0 0)]
noncomputable abbrev Fv(x:PV)(k:Int)(n:Nat)(x1:(Hook.X (bD)))(w1:World)(b1:List Nat):SS:=(SS.mk [(ef x k),(.ints .u8 (List.take (if(aW n x x1).toNat=0 then 0 else 0) (List.replicate (aW n x x1).toNat (0:Int))++List.map aM (valsAt w1 x.A x.n)++List.drop ((if(aW n x x1).toNat=0 then 0 else 0)+x.n) (List.replicate (aW n x x1).toNat (0:Int))) 5 0 0)] [] true w1 b1)
noncomputable abbrev Fw(n:Nat)(x:PV)(x1:(Hook.X (bD))):SV:=(.slc 1 (if(aW n x x1).toNat=(aZ x).toNat then 0 else 0+(aZ x).toNat*1) ((aW n x x1).toNat-(aZ x).toNat) ((aW n x x1).toNat-(aZ x).toNat) false false)
noncomputable abbrev Ac(x:PV)(n:Nat)(x1:(Hook.X (bD))):Prop:=((0:Int)<=i64.wrap ((0:Int)+(↑x.n:Int))/\i64.wrap ((0:Int)+(↑x.n:Int))<=(↑(aW n x x1).toNat:Int))
noncomputable abbrev vu(n:Nat):SV:=(.int .u64 (u64.wrap (↑n:Int)) false)
noncomputable abbrev Ft(n:Nat)(x:PV)(x1:(Hook.X (bD)))(w1:World)(b1:List Nat)(k:Int)(A:Option Addr)(x0:(Hook.X (bv))):T:=(.need ((0:Int)<=(0:Int)/\(0:Int)<=(↑(aW n x x1).toNat:Int)) (.need (canBytes w1 b1 x.A x.n) (.need (x.n<=(aW n x x1).toNat-0) (.need ((if(aW n x x1).toNat=0 then 0 else 0)+x.n<=(List.replicate (aW n x x1).toNat (0:Int)).length/\an 0 0 (if(aW n x x1).toNat=0 then 0 else 0) x.n=true) (.split (decide (x.size<(0:Int))) (.need (Ac x n x1) (.hc 90 [(Fw n x x1),(vu n)] (Fv x k n x1 w1 b1) (gH) fun x2 w2 b2=>(.need ((0:Int)<=i64.wrap (bA x x2)/\i64.wrap (bA x x2)<=(↑(aW n x x1).toNat:Int)) (.need (canBytes w2 b2 A n) (.need (n<=(aW n x x1).toNat-(i64.wrap (bA x x2)).toNat) (.need ((if(aW n x x1).toNat=(i64.wrap (bA x x2)).toNat then 0 else 0+(i64.wrap (bA x x2)).toNat*1)+n<=x2.l.length/\an 0 0 (if(aW n x x1).toNat=(i64.wrap (bA x x2)).toNat then 0 else 0+(i64.wrap (bA x x2)).toNat*1) n=true) (.split ((↑(aW n x x1).toNat:Int) != i64.wrap (i64.wrap (bA x x2)+(↑n:Int))) (.leaf .ret [sd] (SS.mk [(ef x k),(Ag n x x1 x2 w2 A),yG] [] true w2 b2)) (.need (0+(aW n x x1).toNat<=(List.take (if(aW n x x1).toNat=(i64.wrap (bA x x2)).toNat then 0 else 0+(i64.wrap (bA x x2)).toNat*1) x2.l++List.map aM (valsAt w2 A n)++List.drop ((if(aW n x x1).toNat=(i64.wrap (bA x x2)).toNat then 0 else 0+(i64.wrap (bA x x2)).toNat*1)+n) x2.l).length) (.hc 91 [(.ptr 2 0)] (SS.mk (Ab x k n x1 x2 w2 A x0) [] true w2 b2) (cA) fun x3 w3 b3=>(.leaf .ret [se] (SS.mk (Ab x k n x1 x2 w2 A x0) [] true w3 b3))))))))))) (.need (Ac x n x1) (.need (canBytes w1 b1 A n) (.need (n<=(aW n x x1).toNat-(aZ x).toNat) (.need ((if(aW n x x1).toNat=(aZ x).toNat then 0 else 0+(aZ x).toNat*1)+n<=(List.take (if(aW n x x1).toNat=0 then 0 else 0) (List.replicate (aW n x x1).toNat (0:Int))++List.map aM (valsAt w1 x.A x.n)++List.drop ((if(aW n x x1).toNat=0 then 0 else 0)+x.n) (List.replicate (aW n x x1).toNat (0:Int))).length/\an 0 0 (if(aW n x x1).toNat=(aZ x).toNat then 0 else 0+(aZ x).toNat*1) n=true) (.split ((↑(aW n x x1).toNat:Int) != i64.wrap (i64.wrap ((0:Int)+(↑x.n:Int))+(↑n:Int))) (.leaf .ret [sd] (SS.mk [(ef x k),(Af n x x1 w1 A),yG] [] true w1 b1)) (.need (0+(aW n x x1).toNat<=(List.take (if(aW n x x1).toNat=(aZ x).toNat then 0 else 0+(aZ x).toNat*1) (List.take (if(aW n x x1).toNat=0 then 0 else 0) (List.replicate (aW n x x1).toNat (0:Int))++List.map aM (valsAt w1 x.A x.n)++List.drop ((if(aW n x x1).toNat=0 then 0 else 0)+x.n) (List.replicate (aW n x x1).toNat (0:Int)))++List.map aM (valsAt w1 A n)++List.drop ((if(aW n x x1).toNat=(aZ x).toNat then 0 else 0+(aZ x).toNat*1)+n) (List.take (if(aW n x x1).toNat=0 then 0 else 0) (List.replicate (aW n x x1).toNat (0:Int))++List.map aM (valsAt w1 x.A x.n)++List.drop ((if(aW n x x1).toNat=0 then 0 else 0)+x.n) (List.replicate (aW n x x1).toNat (0:Int)))).length) (.hc 91 [(.ptr 2 0)] (SS.mk (Aa x k n x1 w1 A x0) [] true w1 b1) (cA) fun x2 w2 b2=>(.leaf .ret [se] (SS.mk (Aa x k n x1 w1 A x0) [] true w2 b2))))))))))))))
noncomputable abbrev aB(n:Nat)(x:PV):Int:=(i64.wrap ((↑n:Int)+(↑x.n:Int)))
noncomputable abbrev Ae(n:Nat)(x:PV)(w0:World)(A:Option Addr):SObj:=(.ints .u8 (List.take (if(aB n x).toNat=(aZ x).toNat then 0 else 0+(aZ x).toNat*1) (List.take (if(aB n x).toNat=0 then 0 else 0) (List.replicate (aB n x).toNat (0:Int))++List.map aM (valsAt w0 x.A x.n)++List.drop ((if(aB n x).toNat=0 then 0 else 0)+x.n) (List.replicate (aB n x).toNat (0:Int)))++List.map aM (valsAt w0 A n)++List.drop ((if(aB n x).toNat=(aZ x).toNat then 0 else 0+(aZ x).toNat*1)+n) (List.take (if(aB n x).toNat=0 then 0 else 0) (List.replicate (aB n x).toNat (0:Int))++List.map aM (valsAt w0 x.A x.n)++List.drop ((if(aB n x).toNat=0 then 0 else 0)+x.n) (List.replicate (aB n x).toNat (0:Int)))) 5 0 0)
noncomputable abbrev Fy(x:PV)(k:Int)(n:Nat)(w0:World)(A:Option Addr)(x0:(Hook.X (bv))):List SObj:=[(ef x k),(Ae n x w0 A),(.cells [(.str (bytesOf (List.take (aB n x).toNat (List.drop 0 (List.take (if(aB n x).toNat=(aZ x).toNat then 0 else 0+(aZ x).toNat*1) (List.take (if(aB n x).toNat=0 then 0 else 0) (List.replicate (aB n x).toNat (0:Int))++List.map aM (valsAt w0 x.A x.n)++List.drop ((if(aB n x).toNat=0 then 0 else 0)+x.n) (List.replicate (aB n x).toNat (0:Int)))++List.map aM (valsAt w0 A n)++List.drop ((if(aB n x).toNat=(aZ x).toNat then 0 else 0+(aZ x).toNat*1)+n) (List.take (if(aB n x).toNat=0 then 0 else 0) (List.replicate (aB n x).toNat (0:Int))++List.map aM (valsAt w0 x.A x.n)++List.drop ((if(aB n x).toNat=0 then 0 else 0)+x.n) (List.replicate (aB n x).toNat (0:Int))))))) false),(.xp x0),(.int .i64 (aZ x) false)] 3 64 0 0)]
noncomputable abbrev IB(x:PV)(k:Int)(n:Nat)(w0:World)(b0:List Nat):SS:=(SS.mk [(ef x k),(.ints .u8 (List.take (if(aB n x).toNat=0 then 0 else 0) (List.replicate (aB n x).toNat (0:Int))++List.map aM (valsAt w0 x.A x.n)++List.drop ((if(aB n x).toNat=0 then 0 else 0)+x.n) (List.replicate (aB n x).toNat (0:Int))) 5 0 0)] [] true w0 b0)
noncomputable abbrev Fu(n:Nat)(x:PV):SV:=(.slc 1 (if(aB n x).toNat=(aZ x).toNat then 0 else 0+(aZ x).toNat*1) ((aB n x).toNat-(aZ x).toNat) ((aB n x).toNat-(aZ x).toNat) false false)
noncomputable abbrev z8(x:PV)(n:Nat):Prop:=((0:Int)<=i64.wrap ((0:Int)+(↑x.n:Int))/\i64.wrap ((0:Int)+(↑x.n:Int))<=(↑(aB n x).toNat:Int))
noncomputable abbrev Ad(n:Nat)(x:PV)(x1:(Hook.X (gH)))(w1:World)(A:Option Addr)(x0:(Hook.X (bv))):List SV:=[(.str (bytesOf (List.take (aB n x).toNat (List.drop 0 (List.take (if(aB n x).toNat=(i64.wrap (bA x x1)).toNat then 0 else 0+(i64.wrap (bA x x1)).toNat*1) x1.l++List.map aM (valsAt w1 A n)++List.drop ((if(aB n x).toNat=(i64.wrap (bA x x1)).toNat then 0 else 0+(i64.wrap (bA x x1)).toNat*1)+n) x1.l)))) false),(.xp x0),(.int .i64 (i64.wrap (bA x x1)) false)]
noncomputable abbrev vv(n:Nat)(x:PV)(x1:(Hook.X (gH)))(w1:World)(A:Option Addr):SObj:=(.ints .u8 (List.take (if(aB n x).toNat=(i64.wrap (bA x x1)).toNat then 0 else 0+(i64.wrap (bA x x1)).toNat*1) x1.l++List.map aM (valsAt w1 A n)++List.drop ((if(aB n x).toNat=(i64.wrap (bA x x1)).toNat then 0 else 0+(i64.wrap (bA x x1)).toNat*1)+n) x1.l) 5 0 0)
noncomputable abbrev Fx(n:Nat)(x:PV)(w0:World)(b0:List Nat)(k:Int)(A:Option Addr)(x0:(Hook.X (bv))):T:=(.need ((0:Int)<=(0:Int)/\(0:Int)<=(↑(aB n x).toNat:Int)) (.need (canBytes w0 b0 x.A x.n) (.need (x.n<=(aB n x).toNat-0) (.need ((if(aB n x).toNat=0 then 0 else 0)+x.n<=(List.replicate (aB n x).toNat (0:Int)).length/\an 0 0 (if(aB n x).toNat=0 then 0 else 0) x.n=true) (.split (decide (x.size<(0:Int))) (.need (z8 x n) (.hc 90 [(Fu n x),(vu n)] (IB x k n w0 b0) (gH) fun x1 w1 b1=>(.need ((0:Int)<=i64.wrap (bA x x1)/\i64.wrap (bA x x1)<=(↑(aB n x).toNat:Int)) (.need (canBytes w1 b1 A n) (.need (n<=(aB n x).toNat-(i64.wrap (bA x x1)).toNat) (.need ((if(aB n x).toNat=(i64.wrap (bA x x1)).toNat then 0 else 0+(i64.wrap (bA x x1)).toNat*1)+n<=x1.l.length/\an 0 0 (if(aB n x).toNat=(i64.wrap (bA x x1)).toNat then 0 else 0+(i64.wrap (bA x x1)).toNat*1) n=true) (.split ((↑(aB n x).toNat:Int) != i64.wrap (i64.wrap (bA x x1)+(↑n:Int))) (.leaf .ret [sd] (SS.mk [(ef x k),(vv n x x1 w1 A),yG] [] true w1 b1)) (.need (0+(aB n x).toNat<=(List.take (if(aB n x).toNat=(i64.wrap (bA x x1)).toNat then 0 else 0+(i64.wrap (bA x x1)).toNat*1) x1.l++List.map aM (valsAt w1 A n)++List.drop ((if(aB n x).toNat=(i64.wrap (bA x x1)).toNat then 0 else 0+(i64.wrap (bA x x1)).toNat*1)+n) x1.l).length) (.hc 91 [(.ptr 2 0)] (SS.mk [(ef x k),(vv n x x1 w1 A),(.cells (Ad n x x1 w1 A x0) 3 64 0 0)] [] true w1 b1) (cA) fun x2 w2 b2=>(.leaf .ret [se] (SS.mk [(ef x k),(vv n x x1 w1 A),(.cells (Ad n x x1 w1 A x0) 3 64 0 0)] [] true w2 b2))))))))))) (.need (z8 x n) (.need (canBytes w0 b0 A n) (.need (n<=(aB n x).toNat-(aZ x).toNat) (.need ((if(aB n x).toNat=(aZ x).toNat then 0 else 0+(aZ x).toNat*1)+n<=(List.take (if(aB n x).toNat=0 then 0 else 0) (List.replicate (aB n x).toNat (0:Int))++List.map aM (valsAt w0 x.A x.n)++List.drop ((if(aB n x).toNat=0 then 0 else 0)+x.n) (List.replicate (aB n x).toNat (0:Int))).length/\an 0 0 (if(aB n x).toNat=(aZ x).toNat then 0 else 0+(aZ x).toNat*1) n=true) (.split ((↑(aB n x).toNat:Int) != i64.wrap (i64.wrap ((0:Int)+(↑x.n:Int))+(↑n:Int))) (.leaf .ret [sd] (SS.mk [(ef x k),(Ae n x w0 A),yG] [] true w0 b0)) (.need (0+(aB n x).toNat<=(List.take (if(aB n x).toNat=(aZ x).toNat then 0 else 0+(aZ x).toNat*1) (List.take (if(aB n x).toNat=0 then 0 else 0) (List.replicate (aB n x).toNat (0:Int))++List.map aM (valsAt w0 x.A x.n)++List.drop ((if(aB n x).toNat=0 then 0 else 0)+x.n) (List.replicate (aB n x).toNat (0:Int)))++List.map aM (valsAt w0 A n)++List.drop ((if(aB n x).toNat=(aZ x).toNat then 0 else 0+(aZ x).toNat*1)+n) (List.take (if(aB n x).toNat=0 then 0 else 0) (List.replicate (aB n x).toNat (0:Int))++List.map aM (valsAt w0 x.A x.n)++List.drop ((if(aB n x).toNat=0 then 0 else 0)+x.n) (List.replicate (aB n x).toNat (0:Int)))).length) (.hc 91 [(.ptr 2 0)] (SS.mk (Fy x k n w0 A x0) [] true w0 b0) (cA) fun x1 w1 b1=>(.leaf .ret [se] (SS.mk (Fy x k n w0 A x0) [] true w1 b1))))))))))))))
noncomputable abbrev Iz(x:PV)(k:Int)(w:World):SS:=(SS.mk [(ef x k)] [] true w [])
noncomputable abbrev IA(x:PV)(k:Int)(w0:World)(b0:List Nat):SS:=(SS.mk [(ef x k)] [] true w0 b0)
theorem KX(x:PV)(k:Int)(A:Option Addr)(n c:Nat)(w:World):al Tryz.prog KE 2000 74 [.agg [.str x.name false,.int .i64 k false,.xs x.A x.n x.c,.int .i64 x.size false,.bool x.path false,.one x.tr.1 x.tr.2],.xs A n c] (SS.mk [] [] true w []) =
(.hc 85 [(.int .i64 k false)] (Iz x k w) (bv) fun x0 w0 b0=>(.split (decide (x.size<(0:Int))) (.hc 89 [(vu n)] (IA x k w0 b0) (bD) fun x1 w1 b1=>(.need ((0:Int)<=i64.wrap (lN n x x1)/\i64.wrap (lN n x x1)<=i64.wrap (lN n x x1)/\(↑(1:Nat):Int)*i64.wrap (lN n x x1)<=(2:Int)^48/\i64.wrap (lN n x x1)<(2:Int)^63) (.both (Ft n x x1 w1 b1 k A x0) (Ft n x x1 w1 b1 k A x0)))) (.need ((0:Int)<=i64.wrap ((↑n:Int)+(↑x.n:Int))/\i64.wrap ((↑n:Int)+(↑x.n:Int))<=i64.wrap ((↑n:Int)+(↑x.n:Int))/\(↑(1:Nat):Int)*i64.wrap ((↑n:Int)+(↑x.n:Int))<=(2:Int)^48/\i64.wrap ((↑n:Int)+(↑x.n:Int))<(2:Int)^63) (.both (Fx n x w0 b0 k A x0) (Fx n x w0 b0 k A x0))))):=by kernel_rfl
theorem Qm(x:PV)(k:Int)(A:Option Addr)(n c:Nat)(w:World):(by have h:=KX x k A n c w;unfold IA Iz Fx vv Ad z8 Fu IB Fy Ae aB Ft vu Ac Fw Fv Ab Ag Aa Af ef aZ se sd yG bA aW lN at h;exact type_of% h):=KX x k A n c w
end
section
open Go Go.Rx Go.RowKit
@[reducible] def xq:SV:=.one .nilIface rfl
@[reducible] def tq:SV:=.ifc 147 (.agg [.fn (.func 165) [] [],.fn (.func 166) [] [],.one .nilFunc rfl])
@[reducible] def yp:SV:=.ifc 147 (.agg [.fn (.func 163) [] [],.fn (.func 164) [] [],.one .nilFunc rfl])
@[reducible] def yr:SV:=.ifc 147 (.agg [.fn (.func 170) [] [],.fn (.func 171) [] [],.one .nilFunc rfl])
@[reducible] def yn:SV:=.ifc 147 (.agg [.fn (.func 175) [] [],.fn (.func 176) [] [],.fn (.func 177) [] []])
@[reducible] def yq:SV:=.ifc 147 (.agg [.fn (.func 202) [] [],.fn (.func 203) [] [],.fn (.func 204) [] []])
@[reducible] def yP:SV:=.ifc 147 (.agg [.fn (.func 172) [] [],.fn (.func 173) [] [],.fn (.func 174) [] []])
@[reducible] def yN:SV:=.ifc 147 (.agg [.fn (.func 167) [] [],.fn (.func 168) [] [],.fn (.func 169) [] []])
@[reducible] def yO:SV:=.ifc 147 (.agg [.fn (.func 199) [] [],.fn (.func 200) [] [],.fn (.func 201) [] []])
@[reducible] def vO(s:ByteArray)(off:Nat)(x:PV)(k:Int)(size:Int)(tr:SV):List SObj:=[.cells [.str s false,.ptr 1 0,.int .i64 off false] 3 64 0 0,.cells [.str x.name false,.int .i64 k false,.xs x.A x.n x.c,.int .i64 size true,.bool x.path false,tr] 6 88 0 0]
@[reducible] def c9:Hook:={ X:=ByteArray,out:=fun _ s x=>(.tup [.str x false,.one .nilIface rfl],s.objs) }
structure RV where
 size:Nat
 n:Nat
@[reducible] def ux:Hook:={ X:=RV,out:=fun _ s x=>(.tup [.int .i64 x.size false,.int .i64 x.n false,.one .nilIface rfl],s.objs) }
def ju:Hooks:={ calls:=fun f=>if f=166∨f=164∨f=171∨f=176∨f=203∨f=173∨f=168∨f=200 then some c9 else if f=391 then some cA else if f=96 then some ux else none,loops:=fun _ _=>none }
structure NC where
 s:ByteArray
 p:Addr
 i:Nat
@[reducible] def JF:Hook:={ X:=NC,out:=fun _ s x=>(.tup [.ptr s.objs.length 0,.one .nilIface rfl],s.objs++[.cells [.str x.s false,.xp x.p,.int .i64 x.i false] 3 64 0 0]) }
@[reducible] def iO:Hook:={ X:=UV,out:=fun _ s x=>(.tup [.xs x.A x.k x.c,.one .nilIface rfl],s.objs) }
@[reducible] def bS(k:Int)(size:Int)(tr:SV):Hook:={ X:=PV,out:=fun _ s x=>(.agg [.str x.name false,.int .i64 k false,.xs x.A x.n x.c,.int .i64 size true,.bool x.path false,tr],s.objs) }
def PP(k:Int)(size:Int)(tr:SV):Hooks:={ calls:=fun f=>if f=73 then some (bS k size tr) else if f=74 then some JF else if f=165∨f=163∨f=170∨f=175∨f=202∨f=172∨f=167∨f=199 then some iO else none,loops:=fun _ _=>none }
end
section
open Go Go.RowKit
theorem Lp(w:World):(binOp BinOp.eql 80 Value.nilFunc Value.nilFunc).run Tryz.prog w=.ok (.bool true) w:=by
 rfl
theorem eG(f g:Fn)(v:Value)(w:World):Calls Tryz.prog 391 #[.agg #[.func f #[] #[],.func g #[] #[],.nilFunc],v] w fun e w'=>e=.returned .nilIface/\Below w.heap.size w w':=by
 have hal:=Below.alloc (Below.refl w.heap.size w) (Nat.le_refl _) (Obj.cells #[Value.func f #[] #[],Value.func g #[] #[],Value.nilFunc] 147)
 go_enter Tryz.func391,Tryz.ntmps391
 go_wp2
 rw[Lp]
 go_wp2
 simp[bodyPost,results,Tryz.results391,go_sem]
 exact hal
end
section
open Go Go.Rx Go.RowKit
def FY:SObj->Prop
 | .cells cs tot _ _ _=>cs.length=tot
 | .ints ..=>True
 | .other _=>True
 |_=>False
theorem FO{β:Nat->Nat}{o:SObj}(h:FY o){x y:Option Obj}(hx:o.At β x)(hy:o.At β y):x=y:=by
 cases o with
 |cells cs tot e lo hi=>
  obtain⟨r1,h1,h2⟩:=hx
  obtain⟨r2,h3,h4⟩:=hy
  have hl:cs.length=tot:=h
  have e1:r1=[]:=List.eq_nil_of_length_eq_zero (by omega)
  have e2:r2=[]:=List.eq_nil_of_length_eq_zero (by omega)
  subst e1 e2
  rw[h1,h3]
 |ints k l e lo hi=>exact Eq.trans hx (Eq.symm hy)
 |other ob=>exact Eq.trans hx (Eq.symm hy)
 |unk=>exact h.elim
 |vals l tot e lo hi=>exact h.elim
theorem bp{β:Nat->Nat}{objs:List SObj}{w w':World}{m:Nat}(hk:Keep (ac β m) w w')(ha:aH β objs w)(hb:aH β objs w')(hl:objs.length=m)(hf:∀o∈objs,FY o):Below w.heap.size w w':=by
 refine⟨hk.os,hk.tape,hk.output,hk.size,fun b hlt=>?_⟩
 by_cases hm:b∈ac β m
 ·simp only[ac,List.mem_map,List.mem_range]at hm
  obtain⟨i,hi,rfl⟩:=hm
  have hi':i<objs.length:=by omega
  exact FO (hf _ (List.getElem_mem hi')) (hb i _ (List.getElem?_eq_getElem hi')) (ha i _ (List.getElem?_eq_getElem hi'))
 ·exact hk.block b hlt hm
theorem jo(L:List UInt8)(i j p q r:Nat):List.map (fun b:UInt8=>(b.toNat:Int)) ((#[]:Array UInt8).extract p q++L.toArray.extract i j++(#[]:Array UInt8).extract r 0).toList=((L.take j).drop i).map fun b=>(b.toNat:Int):=by
 simp[List.drop_take]
theorem jp(L:List UInt8)(i j:Nat):((⟨L.toArray⟩:ByteArray).extract i j).size=min j L.length-i:=by
 simp[ByteArray.size_extract,ByteArray.size]
 omega
theorem dS(s:ByteArray)(off:Nat)(x:PV)(k size:Int)(tr:SV)(h1:tr.ok 2):(vO s off x k size tr).length=2/\(∀o∈vO s off x k size tr,o.ok 2)/\∀o∈vO s off x k size tr,FY o:=by
 refine⟨rfl,fun o ho=>?_,fun o ho=>?_⟩
 all_goals
  simp only[List.mem_cons,List.mem_nil_iff,or_false]at ho
  rcases ho with rfl |rfl <;> simp[SObj.ok,be,SV.ok,FY,h1]
theorem fv(n:Nat):0<(uv n).length:=by
 by_cases h:n<128
 ·rw[bO h];simp
 ·rw[cx h];simp
theorem iB(L:List UInt8)(m:Nat):bytesOf (List.take L.length (List.map (fun b:UInt8=>(b.toNat:Int)) L++List.replicate m (0:Int)))=⟨L.toArray⟩:=by
 rw[gz,List.take_left' (by simp),List.map_map]
 congr 2
 refine(List.map_congr_left (g:=id) fun x _=>?_).trans (List.map_id L)
 simp
end
section
open Go Go.Rx Go.RowKit
noncomputable abbrev gX(x:PV)(k:Int):SObj:=(.cells [(.str x.name false),(.int .i64 k false),(.xs x.A x.n x.c),(.int .i64 0 true),(.bool x.path false),(.one .nilIface rfl)] 6 88 0 0)
noncomputable abbrev gY(s:ByteArray)(off:Nat):List SV:=[(.str s false),(.ptr 1 0),(.int .i64 ((↑off:Int)) false)]
noncomputable abbrev Ao:ByteArray:=(ByteArray.mk #[99,111,109,112,111,110,101,110,116,32,115,105,122,101,32,109,105,115,109,97,116,99,104,58,32,33,61])
noncomputable abbrev sj(s:ByteArray)(x:PV)(c0:Nat):SObj:=(.ints .u8 (List.map (fun b=>(↑b.toNat:Int)) (#[].extract 0 0++s.data.extract 0 (0+((↑x.n:Int).toNat-0))++#[].extract (0+min ((↑x.n:Int).toNat-0) (s.data.size-0)) 0).toList++List.replicate (c0-(s.extract 0 (↑x.n:Int).toNat).size) (0:Int)) 5 c0 (c0+1))
theorem Pr(s:ByteArray)(off:Nat)(x:PV)(k:Int)(w:World)(bs:List Nat):al Tryz.prog ju 3000 91 [.ptr 0 0] (SS.mk (vO s off x k (0) xq) [] true w bs) =
(.split (decide ((↑off:Int) > (↑s.size:Int))) (.leaf .ret [(.ifc 105 (.ptr 2 0))] (SS.mk [(.cells (gY s off) 3 64 0 0),(gX x k),(.cells [(.str (ByteArray.mk #[99,111,109,112,111,110,101,110,116,32,118,97,108,117,101,83,116,97,114,116,73,100,120,32,105,115,32,103,114,101,97,116,101,114,32,116,104,97,110,32,116,104,101,32,108,101,110,103,116,104,32,111,102,32,116,104,101,32,99,111,109,112,111,110,101,110,116,39,115,32,98,121,116,101,115]) true)] 1 107 0 0)] [] true w bs)) (.split ((↑x.n:Int) == (0:Int)) (.leaf .ret [(.ifc 105 (.ptr 2 0))] (SS.mk [(.cells (gY s off) 3 64 0 0),(gX x k),(.cells [(.str (ByteArray.mk #[67,111,109,112,111,110,101,110,116,32,105,115,32,109,105,115,115,105,110,103,32,105,116,115,32,112,114,111,116,111,99,111,108,39,115,32,86,67,111,100,101,32,102,105,101,108,100]) true)] 1 107 0 0)] [] true w bs)) (.split (decide ((↑s.size:Int)<(↑x.n:Int))) (.leaf .ret [(.ifc 105 (.ptr 2 0))] (SS.mk [(.cells (gY s off) 3 64 0 0),(gX x k),(.cells [(.str Ao true)] 1 107 0 0)] [] true w bs)) (.need ((0:Int)<=(↑x.n:Int)/\(↑x.n:Int)<=(↑s.size:Int)) (.choose (.appendCap ((s.extract 0 (↑x.n:Int).toNat).size) 0 5) fun c0=>(.need (x.A=x.A/\x.n=x.n/\x.c=x.c) (.need (0=0) (.need (0+(s.extract 0 (↑x.n:Int).toNat).size<=(List.map (fun b=>(↑b.toNat:Int)) (#[].extract 0 0++s.data.extract 0 (0+((↑x.n:Int).toNat-0))++#[].extract (0+min ((↑x.n:Int).toNat-0) (s.data.size-0)) 0).toList++List.replicate (c0-(s.extract 0 (↑x.n:Int).toNat).size) (0:Int)).length) (.need (canBytes w bs x.A x.n) (.split (!(bytesOf (List.take (s.extract 0 (↑x.n:Int).toNat).size (List.drop 0 (List.map (fun b=>(↑b.toNat:Int)) (#[].extract 0 0++s.data.extract 0 (0+((↑x.n:Int).toNat-0))++#[].extract (0+min ((↑x.n:Int).toNat-0) (s.data.size-0)) 0).toList++List.replicate (c0-(s.extract 0 (↑x.n:Int).toNat).size) (0:Int))))).toList == (bytesAt w x.A x.n).toList) (.leaf .ret [(.ifc 105 (.ptr 3 0))] (SS.mk [(.cells (gY s off) 3 64 0 0),(gX x k),(sj s x c0),(.cells [(.str (ByteArray.mk #[99,111,109,112,111,110,101,110,116,39,115,32,86,67,111,100,101,32,102,105,101,108,100,32,105,115,32,105,110,118,97,108,105,100,58,32,33,61]) true)] 1 107 0 0)] [] true w bs)) (.need ((0:Int)<=(↑off:Int)/\(↑off:Int)<=(↑s.size:Int)) (.split (i64.wrap (Int.tdiv (0:Int) (8:Int)) != (↑(s.extract (↑off:Int).toNat s.size).size:Int)) (.leaf .ret [(.ifc 105 (.ptr 3 0))] (SS.mk [(.cells (gY s off) 3 64 0 0),(gX x k),(sj s x c0),(.cells [(.str (ByteArray.mk #[99,111,109,112,111,110,101,110,116,32,118,97,108,117,101,32,115,105,122,101,32,109,105,115,109,97,116,99,104,58,32,33,61]) true)] 1 107 0 0)] [] true w bs)) (.split (i64.wrap ((↑x.n:Int)+i64.wrap (Int.tdiv (0:Int) (8:Int))) != (↑s.size:Int)) (.leaf .ret [(.ifc 105 (.ptr 3 0))] (SS.mk [(.cells (gY s off) 3 64 0 0),(gX x k),(sj s x c0),(.cells [(.str Ao true)] 1 107 0 0)] [] true w bs)) (.leaf .ret [(.one .nilIface rfl)] (SS.mk [(.cells (gY s off) 3 64 0 0),(gX x k),(sj s x c0)] [] true w bs))))))))))))))):=by kernel_rfl
theorem vN(s:ByteArray)(off:Nat)(x:PV)(k:Int)(w:World)(bs:List Nat):(by have h:=Pr s off x k w bs;unfold sj Ao gY gX at h;exact type_of% h):=Pr s off x k w bs
theorem OU(s:ByteArray)(off:Nat)(x:PV)(k:Int)(w:World)(bs:List Nat):al Tryz.prog ju 3000 72 [.ptr 0 0] (SS.mk (vO s off x k (0) xq) [] true w bs) =
(.leaf .ret [(.tup [(.str (ByteArray.mk #[]) true),(.one .nilIface rfl)])] (SS.mk [(.cells (gY s off) 3 64 0 0),(gX x k)] [] true w bs)):=by kernel_rfl
theorem eN(s:ByteArray)(off:Nat)(x:PV)(k:Int)(w:World)(bs:List Nat):(by have h:=OU s off x k w bs;unfold gY gX at h;exact type_of% h):=OU s off x k w bs
end
section
open Go Go.Rx Go.RowKit
theorem JT{β:Nat->Nat}{w:World}(x:PV)(kn:Nat)(hx:x.n=(uv kn).length)(hk:(uv kn).length<20)(hat:aH β (vO ⟨(uv kn++[]).toArray⟩ (uv kn).length x kn 0 xq) w)(hlt:∀i,i<2->β i<w.heap.size)(hinj:∀i j,i<2->j<2->β i=β j->i=j)(hv:Bts w w.heap.size x.A x.n (uv kn))(hvn:∀ad,x.A=some ad->ad.block ∉ ac β 2)(ht:Tens w) :
  Calls Tryz.prog 91 #[.pointer (some ⟨β 0,0,none⟩)] w fun e w'=>e=.returned .nilIface/\Below w.heap.size w w':=by
 obtain⟨nm,A0,n0,cc,sz,pth,tr⟩:=x
 dsimp only at hx hv hvn
 subst hx
 obtain⟨o1,o2,o3⟩:=dS ⟨(uv kn++[]).toArray⟩ (uv kn).length ⟨nm,A0,(uv kn).length,cc,sz,pth,tr⟩ kn 0 xq (by simp[xq,SV.ok,be])
 have hst:=St.head (P:=Tryz.prog) (Q:=bH fun v w'=>v=.nilIface/\Below w.heap.size w w') o1 hlt hinj hat o2
 refine(fV (hk:=ju) (n:=3000) (args:=[.ptr 0 0]) (Q:=fun v w'=>v=.nilIface/\Below w.heap.size w w') hst ⟨by simp[SV.ok,SS.n],trivial⟩ ?_).mono ?_
 rotate_left
 ·rintro e w' ⟨v,rfl,rfl,h2⟩
  exact⟨rfl,h2⟩
 have hp:=fv kn
 have hL:(uv kn++[]).length=(uv kn).length+0:=by simp
 refine ah (vN _ _ _ kn w (ac β 2)) ?_
 have m1:min (uv kn).length ((uv kn).length+0)=(uv kn).length:=by omega
 have t2:List.take ((uv kn).length+0) (uv kn++[])=uv kn++[]:=List.take_of_length_le (by simp)
 simp only[jo,jp,aC,hL,Int.toNat_natCast,m1,t2,Nat.sub_zero,Nat.zero_add,List.drop_zero,List.take_left,List.drop_left,Nat.min_self,Nat.add_sub_cancel_left,Nat.add_sub_cancel' (Nat.le_add_right _ _)]
 have below:∀ {Γ:Ctx}{β':Nat->Nat}{s:SS}{w':World},Γ={ P:=Tryz.prog,β0:=β,n0:=2,Q:=bH fun v w'=>v=.nilIface/\Below w.heap.size w w' }->St Γ β' s w'->s.objs.take 2=vO ⟨(uv kn++[]).toArray⟩ (uv kn).length ⟨nm,A0,(uv kn).length,cc,sz,pth,tr⟩ kn 0 xq->Keep (ac β 2) w w'->Below w.heap.size w w':=by
  rintro Γ β' s w' rfl hs ho hk
  exact bp hk hat (hs.objsAt ho o2) o1 o3
 refine ak (fun h=>by omega) (fun _=>ae (fun h=>by have:=eq_of_beq h;omega) (fun _=>ak (fun h=>by omega) (fun _=>aa (by omega) (aD ?_))))
 rintro c0 ⟨_,hc0⟩
 refine aa (by simp) (aa trivial (aa (by simp) (aa (hv.canBytesN (Nat.le_refl _) hvn) (ae (fun h=>?_) (fun _=>?_)))))
 ·rw[hv.bytesAt,iB]at h
  simp at h
 have w2:i64.wrap (Int.tdiv 0 8)=0:=by decide
 refine aa (by omega) (ae (fun h=>absurd h (by decide)) (fun _=>ae (fun h=>?_) (fun _=>?_)))
 ·rw[w2,aq (by omega) (by omega)]at h
  simp at h
 exact aJ (w:=w) (bs:=ac β 2) ⟨rfl,Keep.refl _ _,fun b hb=>.inl hb⟩ fun β' w' hs hk=>⟨_,rfl,rfl,below rfl hs rfl hk⟩
end
section
open Go Go.Rx Go.RowKit
noncomputable abbrev oo(s:ByteArray)(off c1:Nat):SObj:=(.ints .u8 (List.map (fun b=>(↑b.toNat:Int)) (#[].extract 0 0++s.data.extract (↑off:Int).toNat ((↑off:Int).toNat+(s.size-(↑off:Int).toNat))++#[].extract (0+min (s.size-(↑off:Int).toNat) (s.data.size-(↑off:Int).toNat)) 0).toList++List.replicate (c1-(s.extract (↑off:Int).toNat s.size).size) (0:Int)) 5 c1 (c1+1))
noncomputable abbrev lV:List SV:=[(.fn (.func 165) [] []),(.fn (.func 166) [] []),(.one .nilFunc rfl)]
noncomputable abbrev gk(x:PV)(k:Int):List SV:=[(.str x.name false),(.int .i64 k false),(.xs x.A x.n x.c),(.int .i64 16 true),(.bool x.path false),(.ifc 147 (.agg lV))]
noncomputable abbrev gm(s:ByteArray)(off:Nat):List SV:=[(.str s false),(.ptr 1 0),(.int .i64 ((↑off:Int)) false)]
noncomputable abbrev sk(s:ByteArray)(off c1 k0_:Nat):SV:=(.slc k0_ 0 ((s.extract (↑off:Int).toNat s.size).size) c1 false false)
noncomputable abbrev oq(off:Nat)(s:ByteArray):Prop:=((0:Int)<=(↑off:Int)/\(↑off:Int)<=(↑s.size:Int))
noncomputable abbrev Ap:ByteArray:=(ByteArray.mk #[99,111,109,112,111,110,101,110,116,32,115,105,122,101,32,109,105,115,109,97,116,99,104,58,32,33,61])
noncomputable abbrev ot(s:ByteArray)(x:PV)(c0:Nat):SObj:=(.ints .u8 (List.map (fun b=>(↑b.toNat:Int)) (#[].extract 0 0++s.data.extract 0 (0+((↑x.n:Int).toNat-0))++#[].extract (0+min ((↑x.n:Int).toNat-0) (s.data.size-0)) 0).toList++List.replicate (c0-(s.extract 0 (↑x.n:Int).toNat).size) (0:Int)) 5 c0 (c0+1))
noncomputable abbrev Aq(s:ByteArray)(off:Nat)(x:PV)(k:Int)(c0 c1 c3:Nat):List SObj:=[(.cells (gm s off) 3 64 0 0),(.cells (gk x k) 6 88 0 0),(ot s x c0),(oo s off c1),(.cells lV 3 147 0 0),(oo s off c3)]
theorem Ps(s:ByteArray)(off:Nat)(x:PV)(k:Int)(w:World)(bs:List Nat):al Tryz.prog ju 3000 91 [.ptr 0 0] (SS.mk (vO s off x k (16) tq) [] true w bs) =
(.split (decide ((↑off:Int) > (↑s.size:Int))) (.leaf .ret [(.ifc 105 (.ptr 2 0))] (SS.mk [(.cells (gm s off) 3 64 0 0),(.cells (gk x k) 6 88 0 0),(.cells [(.str (ByteArray.mk #[99,111,109,112,111,110,101,110,116,32,118,97,108,117,101,83,116,97,114,116,73,100,120,32,105,115,32,103,114,101,97,116,101,114,32,116,104,97,110,32,116,104,101,32,108,101,110,103,116,104,32,111,102,32,116,104,101,32,99,111,109,112,111,110,101,110,116,39,115,32,98,121,116,101,115]) true)] 1 107 0 0)] [] true w bs)) (.split ((↑x.n:Int) == (0:Int)) (.leaf .ret [(.ifc 105 (.ptr 2 0))] (SS.mk [(.cells (gm s off) 3 64 0 0),(.cells (gk x k) 6 88 0 0),(.cells [(.str (ByteArray.mk #[67,111,109,112,111,110,101,110,116,32,105,115,32,109,105,115,115,105,110,103,32,105,116,115,32,112,114,111,116,111,99,111,108,39,115,32,86,67,111,100,101,32,102,105,101,108,100]) true)] 1 107 0 0)] [] true w bs)) (.split (decide ((↑s.size:Int)<(↑x.n:Int))) (.leaf .ret [(.ifc 105 (.ptr 2 0))] (SS.mk [(.cells (gm s off) 3 64 0 0),(.cells (gk x k) 6 88 0 0),(.cells [(.str Ap true)] 1 107 0 0)] [] true w bs)) (.need ((0:Int)<=(↑x.n:Int)/\(↑x.n:Int)<=(↑s.size:Int)) (.choose (.appendCap ((s.extract 0 (↑x.n:Int).toNat).size) 0 5) fun c0=>(.need (x.A=x.A/\x.n=x.n/\x.c=x.c) (.need (0=0) (.need (0+(s.extract 0 (↑x.n:Int).toNat).size<=(List.map (fun b=>(↑b.toNat:Int)) (#[].extract 0 0++s.data.extract 0 (0+((↑x.n:Int).toNat-0))++#[].extract (0+min ((↑x.n:Int).toNat-0) (s.data.size-0)) 0).toList++List.replicate (c0-(s.extract 0 (↑x.n:Int).toNat).size) (0:Int)).length) (.need (canBytes w bs x.A x.n) (.split (!(bytesOf (List.take (s.extract 0 (↑x.n:Int).toNat).size (List.drop 0 (List.map (fun b=>(↑b.toNat:Int)) (#[].extract 0 0++s.data.extract 0 (0+((↑x.n:Int).toNat-0))++#[].extract (0+min ((↑x.n:Int).toNat-0) (s.data.size-0)) 0).toList++List.replicate (c0-(s.extract 0 (↑x.n:Int).toNat).size) (0:Int))))).toList == (bytesAt w x.A x.n).toList) (.leaf .ret [(.ifc 105 (.ptr 3 0))] (SS.mk [(.cells (gm s off) 3 64 0 0),(.cells (gk x k) 6 88 0 0),(ot s x c0),(.cells [(.str (ByteArray.mk #[99,111,109,112,111,110,101,110,116,39,115,32,86,67,111,100,101,32,102,105,101,108,100,32,105,115,32,105,110,118,97,108,105,100,58,32,33,61]) true)] 1 107 0 0)] [] true w bs)) (.need (oq off s) (.split (i64.wrap (Int.tdiv (16:Int) (8:Int)) != (↑(s.extract (↑off:Int).toNat s.size).size:Int)) (.leaf .ret [(.ifc 105 (.ptr 3 0))] (SS.mk [(.cells (gm s off) 3 64 0 0),(.cells (gk x k) 6 88 0 0),(ot s x c0),(.cells [(.str (ByteArray.mk #[99,111,109,112,111,110,101,110,116,32,118,97,108,117,101,32,115,105,122,101,32,109,105,115,109,97,116,99,104,58,32,33,61]) true)] 1 107 0 0)] [] true w bs)) (.split (i64.wrap ((↑x.n:Int)+i64.wrap (Int.tdiv (16:Int) (8:Int))) != (↑s.size:Int)) (.leaf .ret [(.ifc 105 (.ptr 3 0))] (SS.mk [(.cells (gm s off) 3 64 0 0),(.cells (gk x k) 6 88 0 0),(ot s x c0),(.cells [(.str Ap true)] 1 107 0 0)] [] true w bs)) (.need (oq off s) (.choose (.appendCap ((s.extract (↑off:Int).toNat s.size).size) 0 5) fun c1=>(.need (Fn.func 165=Fn.func 165) (.need (Fn.func 166=Fn.func 166) (.need (Value.nilFunc=Value.nilFunc) (.need (0=0) (.hc 166 [(sk s off c1 3)] (SS.mk [(.cells (gm s off) 3 64 0 0),(.cells (gk x k) 6 88 0 0),(ot s x c0),(oo s off c1),(.cells lV 3 147 0 0)] [] true w bs) (c9) fun x2 w2 b2=>(.need (oq off s) (.choose (.appendCap ((s.extract (↑off:Int).toNat s.size).size) 0 5) fun c3=>(.need (Fn.func 165=Fn.func 165) (.need (Fn.func 166=Fn.func 166) (.need (Value.nilFunc=Value.nilFunc) (.need (0=0) (.hc 391 [(.agg lV),(sk s off c3 5)] (SS.mk (Aq s off x k c0 c1 c3) [] true w2 b2) (cA) fun x4 w4 b4=>(.leaf .ret [(.one .nilIface rfl)] (SS.mk (Aq s off x k c0 c1 c3) [] true w4 b4))))))))))))))))))))))))))))):=by kernel_rfl
theorem vP(s:ByteArray)(off:Nat)(x:PV)(k:Int)(w:World)(bs:List Nat):(by have h:=Ps s off x k w bs;unfold Aq ot Ap oq sk gm gk lV oo at h;exact type_of% h):=Ps s off x k w bs
noncomputable abbrev vE(s:ByteArray)(off:Nat)(x:PV)(k:Int)(c0:Nat):List SObj:=[(.cells (gm s off) 3 64 0 0),(.cells (gk x k) 6 88 0 0),(oo s off c0),(.cells lV 3 147 0 0)]
theorem OV(s:ByteArray)(off:Nat)(x:PV)(k:Int)(w:World)(bs:List Nat):al Tryz.prog ju 3000 72 [.ptr 0 0] (SS.mk (vO s off x k (16) tq) [] true w bs) =
(.need (oq off s) (.choose (.appendCap ((s.extract (↑off:Int).toNat s.size).size) 0 5) fun c0=>(.need (Fn.func 165=Fn.func 165) (.need (Fn.func 166=Fn.func 166) (.need (Value.nilFunc=Value.nilFunc) (.need (0=0) (.hc 166 [(sk s off c0 2)] (SS.mk (vE s off x k c0) [] true w bs) (c9) fun x1 w1 b1=>(.leaf .ret [(.tup [(.str x1 false),(.one .nilIface rfl)])] (SS.mk (vE s off x k c0) [] true w1 b1))))))))):=by kernel_rfl
theorem eP(s:ByteArray)(off:Nat)(x:PV)(k:Int)(w:World)(bs:List Nat):(by have h:=OV s off x k w bs;unfold vE oq sk gm gk lV oo at h;exact type_of% h):=OV s off x k w bs
end
section
open Go Go.Rx Go.RowKit
theorem JU{β:Nat->Nat}{w:World}(x:PV)(kn:Nat)(a b:UInt8)(hx:x.n=(uv kn).length)(hk:(uv kn).length<20)(hat:aH β (vO ⟨(uv kn++[a,b]).toArray⟩ (uv kn).length x kn 16 tq) w)(hlt:∀i,i<2->β i<w.heap.size)(hinj:∀i j,i<2->j<2->β i=β j->i=j)(hv:Bts w w.heap.size x.A x.n (uv kn))(hvn:∀ad,x.A=some ad->ad.block ∉ ac β 2)(ht:Tens w) :
  Calls Tryz.prog 91 #[.pointer (some ⟨β 0,0,none⟩)] w fun e w'=>e=.returned .nilIface/\Below w.heap.size w w':=by
 obtain⟨nm,A0,n0,cc,sz,pth,tr⟩:=x
 dsimp only at hx hv hvn
 subst hx
 obtain⟨o1,o2,o3⟩:=dS ⟨(uv kn++[a,b]).toArray⟩ (uv kn).length ⟨nm,A0,(uv kn).length,cc,sz,pth,tr⟩ kn 16 tq (by simp[tq,SV.ok,be])
 have hst:=St.head (P:=Tryz.prog) (Q:=bH fun v w'=>v=.nilIface/\Below w.heap.size w w') o1 hlt hinj hat o2
 refine(fV (hk:=ju) (n:=3000) (args:=[.ptr 0 0]) (Q:=fun v w'=>v=.nilIface/\Below w.heap.size w w') hst ⟨by simp[SV.ok,SS.n],trivial⟩ ?_).mono ?_
 rotate_left
 ·rintro e w' ⟨v,rfl,rfl,h2⟩
  exact⟨rfl,h2⟩
 have hp:=fv kn
 have hL:(uv kn++[a,b]).length=(uv kn).length+2:=by simp
 refine ah (vP _ _ _ kn w (ac β 2)) ?_
 have m1:min (uv kn).length ((uv kn).length+2)=(uv kn).length:=by omega
 have t2:List.take ((uv kn).length+2) (uv kn++[a,b])=uv kn++[a,b]:=List.take_of_length_le (by simp)
 simp only[jo,jp,aC,hL,Int.toNat_natCast,m1,t2,Nat.sub_zero,Nat.zero_add,List.drop_zero,List.take_left,List.drop_left,Nat.min_self,Nat.add_sub_cancel_left,Nat.add_sub_cancel' (Nat.le_add_right _ _)]
 have below:∀ {Γ:Ctx}{β':Nat->Nat}{s:SS}{w':World},Γ={ P:=Tryz.prog,β0:=β,n0:=2,Q:=bH fun v w'=>v=.nilIface/\Below w.heap.size w w' }->St Γ β' s w'->s.objs.take 2=vO ⟨(uv kn++[a,b]).toArray⟩ (uv kn).length ⟨nm,A0,(uv kn).length,cc,sz,pth,tr⟩ kn 16 tq->Keep (ac β 2) w w'->Below w.heap.size w w':=by
  rintro Γ β' s w' rfl hs ho hk
  exact bp hk hat (hs.objsAt ho o2) o1 o3
 refine ak (fun h=>by omega) (fun _=>ae (fun h=>by have:=eq_of_beq h;omega) (fun _=>ak (fun h=>by omega) (fun _=>aa (by omega) (aD ?_))))
 rintro c0 ⟨_,hc0⟩
 refine aa (by simp) (aa trivial (aa (by simp) (aa (hv.canBytesN (Nat.le_refl _) hvn) (ae (fun h=>?_) (fun _=>?_)))))
 ·rw[hv.bytesAt,iB]at h
  simp at h
 have w2:i64.wrap (Int.tdiv 16 8)=2:=by decide
 refine aa (by omega) (ae (fun h=>absurd h (by decide)) (fun _=>ae (fun h=>?_) (fun _=>aa (by omega) (aD ?_))))
 ·rw[w2,aq (by omega) (by omega)]at h
  simp at h
 rintro c1 ⟨_,hc1⟩
 have hcut1:2<=c1:=hc1 ▸ bf
 refine aa trivial (aa trivial (aa trivial (aa trivial ?_)))
 refine cj (w:=w) (bs:=ac β 2) (R:=fun(_:ByteArray) _ _=>True) ⟨rfl,Keep.refl _ _,fun b hb=>.inl hb⟩ (fun x=>⟨rfl,trivial,trivial,trivial⟩) (fun β' wc hs o hk=>?_) ?_
 ·have hbw:=below rfl hs rfl hk
  have h4:=hs.at_ 3 _ rfl
  have hb:=br (n:=2) h4 rfl (hs.lt 3 (by simp[SS.n]))
  refine(Bv _ _ a b _ wc hb (Nat.le_refl _) (ht.below hbw ht.lt)).mono ?_
  rintro e w' ⟨v,rfl,rfl,hb'⟩
  exact⟨_,rfl,hb',trivial⟩
 rintro x2 wc2 w2' b2 hk2 _ hb2 hkw2 hbs2
 refine aa (by omega) (aD ?_)
 rintro c3 ⟨_,hc3⟩
 refine aa trivial (aa trivial (aa trivial (aa trivial ?_)))
 refine cj (w:=w) (bs:=ac β 2) (R:=fun(_:Unit) _ _=>True) ⟨rfl,hkw2,hbs2⟩ (fun x=>⟨rfl,trivial⟩) (fun β' wc hs o hk=>?_) ?_
 ·refine(eG (.func 165) (.func 166) _ wc).mono ?_
  rintro e w' ⟨rfl,hb'⟩
  exact⟨(),rfl,hb',trivial⟩
 rintro x4 wc4 w4 b4 hk4 _ hb4 hkw4 hbs4
 exact aJ (w:=w) (bs:=ac β 2) ⟨rfl,hkw4,hbs4⟩ fun β' w' hs hk=>⟨_,rfl,rfl,below rfl hs rfl hk⟩
end
section
open Go Go.Rx Go.RowKit
noncomputable abbrev oc(s:ByteArray)(off c1:Nat):SObj:=(.ints .u8 (List.map (fun b=>(↑b.toNat:Int)) (#[].extract 0 0++s.data.extract (↑off:Int).toNat ((↑off:Int).toNat+(s.size-(↑off:Int).toNat))++#[].extract (0+min (s.size-(↑off:Int).toNat) (s.data.size-(↑off:Int).toNat)) 0).toList++List.replicate (c1-(s.extract (↑off:Int).toNat s.size).size) (0:Int)) 5 c1 (c1+1))
noncomputable abbrev lS:List SV:=[(.fn (.func 163) [] []),(.fn (.func 164) [] []),(.one .nilFunc rfl)]
noncomputable abbrev gg(x:PV)(k:Int):List SV:=[(.str x.name false),(.int .i64 k false),(.xs x.A x.n x.c),(.int .i64 32 true),(.bool x.path false),(.ifc 147 (.agg lS))]
noncomputable abbrev gh(s:ByteArray)(off:Nat):List SV:=[(.str s false),(.ptr 1 0),(.int .i64 ((↑off:Int)) false)]
noncomputable abbrev sh(s:ByteArray)(off c1 k0_:Nat):SV:=(.slc k0_ 0 ((s.extract (↑off:Int).toNat s.size).size) c1 false false)
noncomputable abbrev oe(off:Nat)(s:ByteArray):Prop:=((0:Int)<=(↑off:Int)/\(↑off:Int)<=(↑s.size:Int))
noncomputable abbrev Ak:ByteArray:=(ByteArray.mk #[99,111,109,112,111,110,101,110,116,32,115,105,122,101,32,109,105,115,109,97,116,99,104,58,32,33,61])
noncomputable abbrev og(s:ByteArray)(x:PV)(c0:Nat):SObj:=(.ints .u8 (List.map (fun b=>(↑b.toNat:Int)) (#[].extract 0 0++s.data.extract 0 (0+((↑x.n:Int).toNat-0))++#[].extract (0+min ((↑x.n:Int).toNat-0) (s.data.size-0)) 0).toList++List.replicate (c0-(s.extract 0 (↑x.n:Int).toNat).size) (0:Int)) 5 c0 (c0+1))
noncomputable abbrev Al(s:ByteArray)(off:Nat)(x:PV)(k:Int)(c0 c1 c3:Nat):List SObj:=[(.cells (gh s off) 3 64 0 0),(.cells (gg x k) 6 88 0 0),(og s x c0),(oc s off c1),(.cells lS 3 147 0 0),(oc s off c3)]
theorem Pp(s:ByteArray)(off:Nat)(x:PV)(k:Int)(w:World)(bs:List Nat):al Tryz.prog ju 3000 91 [.ptr 0 0] (SS.mk (vO s off x k (32) yp) [] true w bs) =
(.split (decide ((↑off:Int) > (↑s.size:Int))) (.leaf .ret [(.ifc 105 (.ptr 2 0))] (SS.mk [(.cells (gh s off) 3 64 0 0),(.cells (gg x k) 6 88 0 0),(.cells [(.str (ByteArray.mk #[99,111,109,112,111,110,101,110,116,32,118,97,108,117,101,83,116,97,114,116,73,100,120,32,105,115,32,103,114,101,97,116,101,114,32,116,104,97,110,32,116,104,101,32,108,101,110,103,116,104,32,111,102,32,116,104,101,32,99,111,109,112,111,110,101,110,116,39,115,32,98,121,116,101,115]) true)] 1 107 0 0)] [] true w bs)) (.split ((↑x.n:Int) == (0:Int)) (.leaf .ret [(.ifc 105 (.ptr 2 0))] (SS.mk [(.cells (gh s off) 3 64 0 0),(.cells (gg x k) 6 88 0 0),(.cells [(.str (ByteArray.mk #[67,111,109,112,111,110,101,110,116,32,105,115,32,109,105,115,115,105,110,103,32,105,116,115,32,112,114,111,116,111,99,111,108,39,115,32,86,67,111,100,101,32,102,105,101,108,100]) true)] 1 107 0 0)] [] true w bs)) (.split (decide ((↑s.size:Int)<(↑x.n:Int))) (.leaf .ret [(.ifc 105 (.ptr 2 0))] (SS.mk [(.cells (gh s off) 3 64 0 0),(.cells (gg x k) 6 88 0 0),(.cells [(.str Ak true)] 1 107 0 0)] [] true w bs)) (.need ((0:Int)<=(↑x.n:Int)/\(↑x.n:Int)<=(↑s.size:Int)) (.choose (.appendCap ((s.extract 0 (↑x.n:Int).toNat).size) 0 5) fun c0=>(.need (x.A=x.A/\x.n=x.n/\x.c=x.c) (.need (0=0) (.need (0+(s.extract 0 (↑x.n:Int).toNat).size<=(List.map (fun b=>(↑b.toNat:Int)) (#[].extract 0 0++s.data.extract 0 (0+((↑x.n:Int).toNat-0))++#[].extract (0+min ((↑x.n:Int).toNat-0) (s.data.size-0)) 0).toList++List.replicate (c0-(s.extract 0 (↑x.n:Int).toNat).size) (0:Int)).length) (.need (canBytes w bs x.A x.n) (.split (!(bytesOf (List.take (s.extract 0 (↑x.n:Int).toNat).size (List.drop 0 (List.map (fun b=>(↑b.toNat:Int)) (#[].extract 0 0++s.data.extract 0 (0+((↑x.n:Int).toNat-0))++#[].extract (0+min ((↑x.n:Int).toNat-0) (s.data.size-0)) 0).toList++List.replicate (c0-(s.extract 0 (↑x.n:Int).toNat).size) (0:Int))))).toList == (bytesAt w x.A x.n).toList) (.leaf .ret [(.ifc 105 (.ptr 3 0))] (SS.mk [(.cells (gh s off) 3 64 0 0),(.cells (gg x k) 6 88 0 0),(og s x c0),(.cells [(.str (ByteArray.mk #[99,111,109,112,111,110,101,110,116,39,115,32,86,67,111,100,101,32,102,105,101,108,100,32,105,115,32,105,110,118,97,108,105,100,58,32,33,61]) true)] 1 107 0 0)] [] true w bs)) (.need (oe off s) (.split (i64.wrap (Int.tdiv (32:Int) (8:Int)) != (↑(s.extract (↑off:Int).toNat s.size).size:Int)) (.leaf .ret [(.ifc 105 (.ptr 3 0))] (SS.mk [(.cells (gh s off) 3 64 0 0),(.cells (gg x k) 6 88 0 0),(og s x c0),(.cells [(.str (ByteArray.mk #[99,111,109,112,111,110,101,110,116,32,118,97,108,117,101,32,115,105,122,101,32,109,105,115,109,97,116,99,104,58,32,33,61]) true)] 1 107 0 0)] [] true w bs)) (.split (i64.wrap ((↑x.n:Int)+i64.wrap (Int.tdiv (32:Int) (8:Int))) != (↑s.size:Int)) (.leaf .ret [(.ifc 105 (.ptr 3 0))] (SS.mk [(.cells (gh s off) 3 64 0 0),(.cells (gg x k) 6 88 0 0),(og s x c0),(.cells [(.str Ak true)] 1 107 0 0)] [] true w bs)) (.need (oe off s) (.choose (.appendCap ((s.extract (↑off:Int).toNat s.size).size) 0 5) fun c1=>(.need (Fn.func 163=Fn.func 163) (.need (Fn.func 164=Fn.func 164) (.need (Value.nilFunc=Value.nilFunc) (.need (0=0) (.hc 164 [(sh s off c1 3)] (SS.mk [(.cells (gh s off) 3 64 0 0),(.cells (gg x k) 6 88 0 0),(og s x c0),(oc s off c1),(.cells lS 3 147 0 0)] [] true w bs) (c9) fun x2 w2 b2=>(.need (oe off s) (.choose (.appendCap ((s.extract (↑off:Int).toNat s.size).size) 0 5) fun c3=>(.need (Fn.func 163=Fn.func 163) (.need (Fn.func 164=Fn.func 164) (.need (Value.nilFunc=Value.nilFunc) (.need (0=0) (.hc 391 [(.agg lS),(sh s off c3 5)] (SS.mk (Al s off x k c0 c1 c3) [] true w2 b2) (cA) fun x4 w4 b4=>(.leaf .ret [(.one .nilIface rfl)] (SS.mk (Al s off x k c0 c1 c3) [] true w4 b4))))))))))))))))))))))))))))):=by kernel_rfl
theorem vF(s:ByteArray)(off:Nat)(x:PV)(k:Int)(w:World)(bs:List Nat):(by have h:=Pp s off x k w bs;unfold Al og Ak oe sh gh gg lS oc at h;exact type_of% h):=Pp s off x k w bs
noncomputable abbrev vz(s:ByteArray)(off:Nat)(x:PV)(k:Int)(c0:Nat):List SObj:=[(.cells (gh s off) 3 64 0 0),(.cells (gg x k) 6 88 0 0),(oc s off c0),(.cells lS 3 147 0 0)]
theorem OS(s:ByteArray)(off:Nat)(x:PV)(k:Int)(w:World)(bs:List Nat):al Tryz.prog ju 3000 72 [.ptr 0 0] (SS.mk (vO s off x k (32) yp) [] true w bs) =
(.need (oe off s) (.choose (.appendCap ((s.extract (↑off:Int).toNat s.size).size) 0 5) fun c0=>(.need (Fn.func 163=Fn.func 163) (.need (Fn.func 164=Fn.func 164) (.need (Value.nilFunc=Value.nilFunc) (.need (0=0) (.hc 164 [(sh s off c0 2)] (SS.mk (vz s off x k c0) [] true w bs) (c9) fun x1 w1 b1=>(.leaf .ret [(.tup [(.str x1 false),(.one .nilIface rfl)])] (SS.mk (vz s off x k c0) [] true w1 b1))))))))):=by kernel_rfl
theorem eF(s:ByteArray)(off:Nat)(x:PV)(k:Int)(w:World)(bs:List Nat):(by have h:=OS s off x k w bs;unfold vz oe sh gh gg lS oc at h;exact type_of% h):=OS s off x k w bs
end
section
open Go Go.Rx Go.RowKit
theorem JR{β:Nat->Nat}{w:World}(x:PV)(kn:Nat)(a b c d:UInt8)(hx:x.n=(uv kn).length)(hk:(uv kn).length<20)(hat:aH β (vO ⟨(uv kn++[a,b,c,d]).toArray⟩ (uv kn).length x kn 32 yp) w)(hlt:∀i,i<2->β i<w.heap.size)(hinj:∀i j,i<2->j<2->β i=β j->i=j)(hv:Bts w w.heap.size x.A x.n (uv kn))(hvn:∀ad,x.A=some ad->ad.block ∉ ac β 2)(ht:Tens w) :
  Calls Tryz.prog 91 #[.pointer (some ⟨β 0,0,none⟩)] w fun e w'=>e=.returned .nilIface/\Below w.heap.size w w':=by
 obtain⟨nm,A0,n0,cc,sz,pth,tr⟩:=x
 dsimp only at hx hv hvn
 subst hx
 obtain⟨o1,o2,o3⟩:=dS ⟨(uv kn++[a,b,c,d]).toArray⟩ (uv kn).length ⟨nm,A0,(uv kn).length,cc,sz,pth,tr⟩ kn 32 yp (by simp[yp,SV.ok,be])
 have hst:=St.head (P:=Tryz.prog) (Q:=bH fun v w'=>v=.nilIface/\Below w.heap.size w w') o1 hlt hinj hat o2
 refine(fV (hk:=ju) (n:=3000) (args:=[.ptr 0 0]) (Q:=fun v w'=>v=.nilIface/\Below w.heap.size w w') hst ⟨by simp[SV.ok,SS.n],trivial⟩ ?_).mono ?_
 rotate_left
 ·rintro e w' ⟨v,rfl,rfl,h2⟩
  exact⟨rfl,h2⟩
 have hp:=fv kn
 have hL:(uv kn++[a,b,c,d]).length=(uv kn).length+4:=by simp
 refine ah (vF _ _ _ kn w (ac β 2)) ?_
 have m1:min (uv kn).length ((uv kn).length+4)=(uv kn).length:=by omega
 have t2:List.take ((uv kn).length+4) (uv kn++[a,b,c,d])=uv kn++[a,b,c,d]:=List.take_of_length_le (by simp)
 simp only[jo,jp,aC,hL,Int.toNat_natCast,m1,t2,Nat.sub_zero,Nat.zero_add,List.drop_zero,List.take_left,List.drop_left,Nat.min_self,Nat.add_sub_cancel_left,Nat.add_sub_cancel' (Nat.le_add_right _ _)]
 have below:∀ {Γ:Ctx}{β':Nat->Nat}{s:SS}{w':World},Γ={ P:=Tryz.prog,β0:=β,n0:=2,Q:=bH fun v w'=>v=.nilIface/\Below w.heap.size w w' }->St Γ β' s w'->s.objs.take 2=vO ⟨(uv kn++[a,b,c,d]).toArray⟩ (uv kn).length ⟨nm,A0,(uv kn).length,cc,sz,pth,tr⟩ kn 32 yp->Keep (ac β 2) w w'->Below w.heap.size w w':=by
  rintro Γ β' s w' rfl hs ho hk
  exact bp hk hat (hs.objsAt ho o2) o1 o3
 refine ak (fun h=>by omega) (fun _=>ae (fun h=>by have:=eq_of_beq h;omega) (fun _=>ak (fun h=>by omega) (fun _=>aa (by omega) (aD ?_))))
 rintro c0 ⟨_,hc0⟩
 refine aa (by simp) (aa trivial (aa (by simp) (aa (hv.canBytesN (Nat.le_refl _) hvn) (ae (fun h=>?_) (fun _=>?_)))))
 ·rw[hv.bytesAt,iB]at h
  simp at h
 have w2:i64.wrap (Int.tdiv 32 8)=4:=by decide
 refine aa (by omega) (ae (fun h=>absurd h (by decide)) (fun _=>ae (fun h=>?_) (fun _=>aa (by omega) (aD ?_))))
 ·rw[w2,aq (by omega) (by omega)]at h
  simp at h
 rintro c1 ⟨_,hc1⟩
 have hcut1:4<=c1:=hc1 ▸ bf
 refine aa trivial (aa trivial (aa trivial (aa trivial ?_)))
 refine cj (w:=w) (bs:=ac β 2) (R:=fun(_:ByteArray) _ _=>True) ⟨rfl,Keep.refl _ _,fun b hb=>.inl hb⟩ (fun x=>⟨rfl,trivial,trivial,trivial⟩) (fun β' wc hs o hk=>?_) ?_
 ·have hbw:=below rfl hs rfl hk
  have h4:=hs.at_ 3 _ rfl
  have hb:=br (n:=4) h4 rfl (hs.lt 3 (by simp[SS.n]))
  refine(DI _ _ _ a b c d _ wc hb hcut1 (Nat.le_refl _) (ht.below hbw ht.lt)).mono ?_
  rintro e w' ⟨v,rfl,rfl,hb'⟩
  exact⟨_,rfl,hb',trivial⟩
 rintro x2 wc2 w2' b2 hk2 _ hb2 hkw2 hbs2
 refine aa (by omega) (aD ?_)
 rintro c3 ⟨_,hc3⟩
 refine aa trivial (aa trivial (aa trivial (aa trivial ?_)))
 refine cj (w:=w) (bs:=ac β 2) (R:=fun(_:Unit) _ _=>True) ⟨rfl,hkw2,hbs2⟩ (fun x=>⟨rfl,trivial⟩) (fun β' wc hs o hk=>?_) ?_
 ·refine(eG (.func 163) (.func 164) _ wc).mono ?_
  rintro e w' ⟨rfl,hb'⟩
  exact⟨(),rfl,hb',trivial⟩
 rintro x4 wc4 w4 b4 hk4 _ hb4 hkw4 hbs4
 exact aJ (w:=w) (bs:=ac β 2) ⟨rfl,hkw4,hbs4⟩ fun β' w' hs hk=>⟨_,rfl,rfl,below rfl hs rfl hk⟩
end
section
open Go Go.Rx Go.RowKit
noncomputable abbrev ou(s:ByteArray)(off c1:Nat):SObj:=(.ints .u8 (List.map (fun b=>(↑b.toNat:Int)) (#[].extract 0 0++s.data.extract (↑off:Int).toNat ((↑off:Int).toNat+(s.size-(↑off:Int).toNat))++#[].extract (0+min (s.size-(↑off:Int).toNat) (s.data.size-(↑off:Int).toNat)) 0).toList++List.replicate (c1-(s.extract (↑off:Int).toNat s.size).size) (0:Int)) 5 c1 (c1+1))
noncomputable abbrev lW:List SV:=[(.fn (.func 170) [] []),(.fn (.func 171) [] []),(.one .nilFunc rfl)]
noncomputable abbrev gn(x:PV)(k:Int):List SV:=[(.str x.name false),(.int .i64 k false),(.xs x.A x.n x.c),(.int .i64 128 true),(.bool x.path false),(.ifc 147 (.agg lW))]
noncomputable abbrev gq(s:ByteArray)(off:Nat):List SV:=[(.str s false),(.ptr 1 0),(.int .i64 ((↑off:Int)) false)]
noncomputable abbrev sn(s:ByteArray)(off c1 k0_:Nat):SV:=(.slc k0_ 0 ((s.extract (↑off:Int).toNat s.size).size) c1 false false)
noncomputable abbrev ov(off:Nat)(s:ByteArray):Prop:=((0:Int)<=(↑off:Int)/\(↑off:Int)<=(↑s.size:Int))
noncomputable abbrev Ar:ByteArray:=(ByteArray.mk #[99,111,109,112,111,110,101,110,116,32,115,105,122,101,32,109,105,115,109,97,116,99,104,58,32,33,61])
noncomputable abbrev ox(s:ByteArray)(x:PV)(c0:Nat):SObj:=(.ints .u8 (List.map (fun b=>(↑b.toNat:Int)) (#[].extract 0 0++s.data.extract 0 (0+((↑x.n:Int).toNat-0))++#[].extract (0+min ((↑x.n:Int).toNat-0) (s.data.size-0)) 0).toList++List.replicate (c0-(s.extract 0 (↑x.n:Int).toNat).size) (0:Int)) 5 c0 (c0+1))
noncomputable abbrev Au(s:ByteArray)(off:Nat)(x:PV)(k:Int)(c0 c1 c3:Nat):List SObj:=[(.cells (gq s off) 3 64 0 0),(.cells (gn x k) 6 88 0 0),(ox s x c0),(ou s off c1),(.cells lW 3 147 0 0),(ou s off c3)]
theorem Pt(s:ByteArray)(off:Nat)(x:PV)(k:Int)(w:World)(bs:List Nat):al Tryz.prog ju 3000 91 [.ptr 0 0] (SS.mk (vO s off x k (128) yr) [] true w bs) =
(.split (decide ((↑off:Int) > (↑s.size:Int))) (.leaf .ret [(.ifc 105 (.ptr 2 0))] (SS.mk [(.cells (gq s off) 3 64 0 0),(.cells (gn x k) 6 88 0 0),(.cells [(.str (ByteArray.mk #[99,111,109,112,111,110,101,110,116,32,118,97,108,117,101,83,116,97,114,116,73,100,120,32,105,115,32,103,114,101,97,116,101,114,32,116,104,97,110,32,116,104,101,32,108,101,110,103,116,104,32,111,102,32,116,104,101,32,99,111,109,112,111,110,101,110,116,39,115,32,98,121,116,101,115]) true)] 1 107 0 0)] [] true w bs)) (.split ((↑x.n:Int) == (0:Int)) (.leaf .ret [(.ifc 105 (.ptr 2 0))] (SS.mk [(.cells (gq s off) 3 64 0 0),(.cells (gn x k) 6 88 0 0),(.cells [(.str (ByteArray.mk #[67,111,109,112,111,110,101,110,116,32,105,115,32,109,105,115,115,105,110,103,32,105,116,115,32,112,114,111,116,111,99,111,108,39,115,32,86,67,111,100,101,32,102,105,101,108,100]) true)] 1 107 0 0)] [] true w bs)) (.split (decide ((↑s.size:Int)<(↑x.n:Int))) (.leaf .ret [(.ifc 105 (.ptr 2 0))] (SS.mk [(.cells (gq s off) 3 64 0 0),(.cells (gn x k) 6 88 0 0),(.cells [(.str Ar true)] 1 107 0 0)] [] true w bs)) (.need ((0:Int)<=(↑x.n:Int)/\(↑x.n:Int)<=(↑s.size:Int)) (.choose (.appendCap ((s.extract 0 (↑x.n:Int).toNat).size) 0 5) fun c0=>(.need (x.A=x.A/\x.n=x.n/\x.c=x.c) (.need (0=0) (.need (0+(s.extract 0 (↑x.n:Int).toNat).size<=(List.map (fun b=>(↑b.toNat:Int)) (#[].extract 0 0++s.data.extract 0 (0+((↑x.n:Int).toNat-0))++#[].extract (0+min ((↑x.n:Int).toNat-0) (s.data.size-0)) 0).toList++List.replicate (c0-(s.extract 0 (↑x.n:Int).toNat).size) (0:Int)).length) (.need (canBytes w bs x.A x.n) (.split (!(bytesOf (List.take (s.extract 0 (↑x.n:Int).toNat).size (List.drop 0 (List.map (fun b=>(↑b.toNat:Int)) (#[].extract 0 0++s.data.extract 0 (0+((↑x.n:Int).toNat-0))++#[].extract (0+min ((↑x.n:Int).toNat-0) (s.data.size-0)) 0).toList++List.replicate (c0-(s.extract 0 (↑x.n:Int).toNat).size) (0:Int))))).toList == (bytesAt w x.A x.n).toList) (.leaf .ret [(.ifc 105 (.ptr 3 0))] (SS.mk [(.cells (gq s off) 3 64 0 0),(.cells (gn x k) 6 88 0 0),(ox s x c0),(.cells [(.str (ByteArray.mk #[99,111,109,112,111,110,101,110,116,39,115,32,86,67,111,100,101,32,102,105,101,108,100,32,105,115,32,105,110,118,97,108,105,100,58,32,33,61]) true)] 1 107 0 0)] [] true w bs)) (.need (ov off s) (.split (i64.wrap (Int.tdiv (128:Int) (8:Int)) != (↑(s.extract (↑off:Int).toNat s.size).size:Int)) (.leaf .ret [(.ifc 105 (.ptr 3 0))] (SS.mk [(.cells (gq s off) 3 64 0 0),(.cells (gn x k) 6 88 0 0),(ox s x c0),(.cells [(.str (ByteArray.mk #[99,111,109,112,111,110,101,110,116,32,118,97,108,117,101,32,115,105,122,101,32,109,105,115,109,97,116,99,104,58,32,33,61]) true)] 1 107 0 0)] [] true w bs)) (.split (i64.wrap ((↑x.n:Int)+i64.wrap (Int.tdiv (128:Int) (8:Int))) != (↑s.size:Int)) (.leaf .ret [(.ifc 105 (.ptr 3 0))] (SS.mk [(.cells (gq s off) 3 64 0 0),(.cells (gn x k) 6 88 0 0),(ox s x c0),(.cells [(.str Ar true)] 1 107 0 0)] [] true w bs)) (.need (ov off s) (.choose (.appendCap ((s.extract (↑off:Int).toNat s.size).size) 0 5) fun c1=>(.need (Fn.func 170=Fn.func 170) (.need (Fn.func 171=Fn.func 171) (.need (Value.nilFunc=Value.nilFunc) (.need (0=0) (.hc 171 [(sn s off c1 3)] (SS.mk [(.cells (gq s off) 3 64 0 0),(.cells (gn x k) 6 88 0 0),(ox s x c0),(ou s off c1),(.cells lW 3 147 0 0)] [] true w bs) (c9) fun x2 w2 b2=>(.need (ov off s) (.choose (.appendCap ((s.extract (↑off:Int).toNat s.size).size) 0 5) fun c3=>(.need (Fn.func 170=Fn.func 170) (.need (Fn.func 171=Fn.func 171) (.need (Value.nilFunc=Value.nilFunc) (.need (0=0) (.hc 391 [(.agg lW),(sn s off c3 5)] (SS.mk (Au s off x k c0 c1 c3) [] true w2 b2) (cA) fun x4 w4 b4=>(.leaf .ret [(.one .nilIface rfl)] (SS.mk (Au s off x k c0 c1 c3) [] true w4 b4))))))))))))))))))))))))))))):=by kernel_rfl
theorem vS(s:ByteArray)(off:Nat)(x:PV)(k:Int)(w:World)(bs:List Nat):(by have h:=Pt s off x k w bs;unfold Au ox Ar ov sn gq gn lW ou at h;exact type_of% h):=Pt s off x k w bs
noncomputable abbrev vG(s:ByteArray)(off:Nat)(x:PV)(k:Int)(c0:Nat):List SObj:=[(.cells (gq s off) 3 64 0 0),(.cells (gn x k) 6 88 0 0),(ou s off c0),(.cells lW 3 147 0 0)]
theorem OW(s:ByteArray)(off:Nat)(x:PV)(k:Int)(w:World)(bs:List Nat):al Tryz.prog ju 3000 72 [.ptr 0 0] (SS.mk (vO s off x k (128) yr) [] true w bs) =
(.need (ov off s) (.choose (.appendCap ((s.extract (↑off:Int).toNat s.size).size) 0 5) fun c0=>(.need (Fn.func 170=Fn.func 170) (.need (Fn.func 171=Fn.func 171) (.need (Value.nilFunc=Value.nilFunc) (.need (0=0) (.hc 171 [(sn s off c0 2)] (SS.mk (vG s off x k c0) [] true w bs) (c9) fun x1 w1 b1=>(.leaf .ret [(.tup [(.str x1 false),(.one .nilIface rfl)])] (SS.mk (vG s off x k c0) [] true w1 b1))))))))):=by kernel_rfl
theorem eS(s:ByteArray)(off:Nat)(x:PV)(k:Int)(w:World)(bs:List Nat):(by have h:=OW s off x k w bs;unfold vG ov sn gq gn lW ou at h;exact type_of% h):=OW s off x k w bs
end
section
open Go Go.Rx Go.RowKit
theorem JV{β:Nat->Nat}{w:World}(x:PV)(kn:Nat)(l:List UInt8)(hl:l.length=16)(hx:x.n=(uv kn).length)(hk:(uv kn).length<20)(hat:aH β (vO ⟨(uv kn++l).toArray⟩ (uv kn).length x kn 128 yr) w)(hlt:∀i,i<2->β i<w.heap.size)(hinj:∀i j,i<2->j<2->β i=β j->i=j)(hv:Bts w w.heap.size x.A x.n (uv kn))(hvn:∀ad,x.A=some ad->ad.block ∉ ac β 2)(ht:Tens w) :
  Calls Tryz.prog 91 #[.pointer (some ⟨β 0,0,none⟩)] w fun e w'=>e=.returned .nilIface/\Below w.heap.size w w':=by
 obtain⟨nm,A0,n0,cc,sz,pth,tr⟩:=x
 dsimp only at hx hv hvn
 subst hx
 obtain⟨o1,o2,o3⟩:=dS ⟨(uv kn++l).toArray⟩ (uv kn).length ⟨nm,A0,(uv kn).length,cc,sz,pth,tr⟩ kn 128 yr (by simp[yr,SV.ok,be])
 have hst:=St.head (P:=Tryz.prog) (Q:=bH fun v w'=>v=.nilIface/\Below w.heap.size w w') o1 hlt hinj hat o2
 refine(fV (hk:=ju) (n:=3000) (args:=[.ptr 0 0]) (Q:=fun v w'=>v=.nilIface/\Below w.heap.size w w') hst ⟨by simp[SV.ok,SS.n],trivial⟩ ?_).mono ?_
 rotate_left
 ·rintro e w' ⟨v,rfl,rfl,h2⟩
  exact⟨rfl,h2⟩
 have hp:=fv kn
 have hL:(uv kn++l).length=(uv kn).length+16:=by simp[hl]
 refine ah (vS _ _ _ kn w (ac β 2)) ?_
 have m1:min (uv kn).length ((uv kn).length+16)=(uv kn).length:=by omega
 have t2:List.take ((uv kn).length+16) (uv kn++l)=uv kn++l:=List.take_of_length_le (by simp[hl])
 simp only[jo,jp,aC,hl,hL,Int.toNat_natCast,m1,t2,Nat.sub_zero,Nat.zero_add,List.drop_zero,List.take_left,List.drop_left,Nat.min_self,Nat.add_sub_cancel_left,Nat.add_sub_cancel' (Nat.le_add_right _ _)]
 have below:∀ {Γ:Ctx}{β':Nat->Nat}{s:SS}{w':World},Γ={ P:=Tryz.prog,β0:=β,n0:=2,Q:=bH fun v w'=>v=.nilIface/\Below w.heap.size w w' }->St Γ β' s w'->s.objs.take 2=vO ⟨(uv kn++l).toArray⟩ (uv kn).length ⟨nm,A0,(uv kn).length,cc,sz,pth,tr⟩ kn 128 yr->Keep (ac β 2) w w'->Below w.heap.size w w':=by
  rintro Γ β' s w' rfl hs ho hk
  exact bp hk hat (hs.objsAt ho o2) o1 o3
 refine ak (fun h=>by omega) (fun _=>ae (fun h=>by have:=eq_of_beq h;omega) (fun _=>ak (fun h=>by omega) (fun _=>aa (by omega) (aD ?_))))
 rintro c0 ⟨_,hc0⟩
 refine aa (by simp) (aa trivial (aa (by simp) (aa (hv.canBytesN (Nat.le_refl _) hvn) (ae (fun h=>?_) (fun _=>?_)))))
 ·rw[hv.bytesAt,iB]at h
  simp at h
 have w2:i64.wrap (Int.tdiv 128 8)=16:=by decide
 refine aa (by omega) (ae (fun h=>absurd h (by decide)) (fun _=>ae (fun h=>?_) (fun _=>aa (by omega) (aD ?_))))
 ·rw[w2,aq (by omega) (by omega)]at h
  simp at h
 rintro c1 ⟨_,hc1⟩
 have hcut1:16<=c1:=hc1 ▸ bf
 refine aa trivial (aa trivial (aa trivial (aa trivial ?_)))
 refine cj (w:=w) (bs:=ac β 2) (R:=fun(_:ByteArray) _ _=>True) ⟨rfl,Keep.refl _ _,fun b hb=>.inl hb⟩ (fun x=>⟨rfl,trivial,trivial,trivial⟩) (fun β' wc hs o hk=>?_) ?_
 ·have hbw:=below rfl hs rfl hk
  have h4:=hs.at_ 3 _ rfl
  have hb:=br (n:=16) h4 hl.symm (hs.lt 3 (by simp[SS.n]))
  refine(DL _ _ _ l _ wc hb hl hcut1 (Nat.le_refl _) (ht.below hbw ht.lt)).mono ?_
  rintro e w' ⟨v,rfl,rfl,hb'⟩
  exact⟨_,rfl,hb',trivial⟩
 rintro x2 wc2 w2' b2 hk2 _ hb2 hkw2 hbs2
 refine aa (by omega) (aD ?_)
 rintro c3 ⟨_,hc3⟩
 refine aa trivial (aa trivial (aa trivial (aa trivial ?_)))
 refine cj (w:=w) (bs:=ac β 2) (R:=fun(_:Unit) _ _=>True) ⟨rfl,hkw2,hbs2⟩ (fun x=>⟨rfl,trivial⟩) (fun β' wc hs o hk=>?_) ?_
 ·refine(eG (.func 170) (.func 171) _ wc).mono ?_
  rintro e w' ⟨rfl,hb'⟩
  exact⟨(),rfl,hb',trivial⟩
 rintro x4 wc4 w4 b4 hk4 _ hb4 hkw4 hbs4
 exact aJ (w:=w) (bs:=ac β 2) ⟨rfl,hkw4,hbs4⟩ fun β' w' hs hk=>⟨_,rfl,rfl,below rfl hs rfl hk⟩
end
section
open Go Go.RowKit
theorem ry(h:Fn)(w:World):(binOp BinOp.eql 80 (Value.func h #[] #[]) Value.nilFunc).run Tryz.prog w=.ok (.bool false) w:=by
 rfl
theorem kW(f g:Fn)(v:Value)(w:World)(hc:∀w1,Below w.heap.size w w1->Calls Tryz.prog 169 #[v] w1 fun e w'=>e=.returned .nilIface/\Below w1.heap.size w1 w'):Calls Tryz.prog 391 #[.agg #[.func f #[] #[],.func g #[] #[],.func (.func 169) #[] #[]],v] w fun e w'=>e=.returned .nilIface/\Below w.heap.size w w':=by
 have hal:=Below.alloc (Below.refl w.heap.size w) (Nat.le_refl _) (Obj.cells #[Value.func f #[] #[],Value.func g #[] #[],Value.func (.func 169) #[] #[]] 147)
 have h1:=hc _ hal
 clear hc
 go_enter Tryz.func391,Tryz.ntmps391
 go_wp2
 rw[ry]
 go_wp2_with fail
 refine h1.mono ?_
 rintro e w' ⟨rfl,hb⟩
 go_wp2
 simp[bodyPost,results,Tryz.results391,go_sem]
 exact hal.trans (hb.mono hal.size)
theorem jS(f g:Fn)(v:Value)(w:World)(hc:∀w1,Below w.heap.size w w1->Calls Tryz.prog 174 #[v] w1 fun e w'=>e=.returned .nilIface/\Below w1.heap.size w1 w'):Calls Tryz.prog 391 #[.agg #[.func f #[] #[],.func g #[] #[],.func (.func 174) #[] #[]],v] w fun e w'=>e=.returned .nilIface/\Below w.heap.size w w':=by
 have hal:=Below.alloc (Below.refl w.heap.size w) (Nat.le_refl _) (Obj.cells #[Value.func f #[] #[],Value.func g #[] #[],Value.func (.func 174) #[] #[]] 147)
 have h1:=hc _ hal
 clear hc
 go_enter Tryz.func391,Tryz.ntmps391
 go_wp2
 rw[ry]
 go_wp2_with fail
 refine h1.mono ?_
 rintro e w' ⟨rfl,hb⟩
 go_wp2
 simp[bodyPost,results,Tryz.results391,go_sem]
 exact hal.trans (hb.mono hal.size)
theorem jQ(f g:Fn)(v:Value)(w:World)(hc:∀w1,Below w.heap.size w w1->Calls Tryz.prog 177 #[v] w1 fun e w'=>e=.returned .nilIface/\Below w1.heap.size w1 w'):Calls Tryz.prog 391 #[.agg #[.func f #[] #[],.func g #[] #[],.func (.func 177) #[] #[]],v] w fun e w'=>e=.returned .nilIface/\Below w.heap.size w w':=by
 have hal:=Below.alloc (Below.refl w.heap.size w) (Nat.le_refl _) (Obj.cells #[Value.func f #[] #[],Value.func g #[] #[],Value.func (.func 177) #[] #[]] 147)
 have h1:=hc _ hal
 clear hc
 go_enter Tryz.func391,Tryz.ntmps391
 go_wp2
 rw[ry]
 go_wp2_with fail
 refine h1.mono ?_
 rintro e w' ⟨rfl,hb⟩
 go_wp2
 simp[bodyPost,results,Tryz.results391,go_sem]
 exact hal.trans (hb.mono hal.size)
theorem kX(f g:Fn)(v:Value)(w:World)(hc:∀w1,Below w.heap.size w w1->Calls Tryz.prog 204 #[v] w1 fun e w'=>e=.returned .nilIface/\Below w1.heap.size w1 w'):Calls Tryz.prog 391 #[.agg #[.func f #[] #[],.func g #[] #[],.func (.func 204) #[] #[]],v] w fun e w'=>e=.returned .nilIface/\Below w.heap.size w w':=by
 have hal:=Below.alloc (Below.refl w.heap.size w) (Nat.le_refl _) (Obj.cells #[Value.func f #[] #[],Value.func g #[] #[],Value.func (.func 204) #[] #[]] 147)
 have h1:=hc _ hal
 clear hc
 go_enter Tryz.func391,Tryz.ntmps391
 go_wp2
 rw[ry]
 go_wp2_with fail
 refine h1.mono ?_
 rintro e w' ⟨rfl,hb⟩
 go_wp2
 simp[bodyPost,results,Tryz.results391,go_sem]
 exact hal.trans (hb.mono hal.size)
theorem jR(f g:Fn)(v:Value)(w:World)(hc:∀w1,Below w.heap.size w w1->Calls Tryz.prog 201 #[v] w1 fun e w'=>e=.returned .nilIface/\Below w1.heap.size w1 w'):Calls Tryz.prog 391 #[.agg #[.func f #[] #[],.func g #[] #[],.func (.func 201) #[] #[]],v] w fun e w'=>e=.returned .nilIface/\Below w.heap.size w w':=by
 have hal:=Below.alloc (Below.refl w.heap.size w) (Nat.le_refl _) (Obj.cells #[Value.func f #[] #[],Value.func g #[] #[],Value.func (.func 201) #[] #[]] 147)
 have h1:=hc _ hal
 clear hc
 go_enter Tryz.func391,Tryz.ntmps391
 go_wp2
 rw[ry]
 go_wp2_with fail
 refine h1.mono ?_
 rintro e w' ⟨rfl,hb⟩
 go_wp2
 simp[bodyPost,results,Tryz.results391,go_sem]
 exact hal.trans (hb.mono hal.size)
end
section
open Go Go.Rx Go.RowKit
noncomputable abbrev nY(s:ByteArray)(off c1:Nat):SObj:=(.ints .u8 (List.map (fun b=>(↑b.toNat:Int)) (#[].extract 0 0++s.data.extract (↑off:Int).toNat ((↑off:Int).toNat+(s.size-(↑off:Int).toNat))++#[].extract (0+min (s.size-(↑off:Int).toNat) (s.data.size-(↑off:Int).toNat)) 0).toList++List.replicate (c1-(s.extract (↑off:Int).toNat s.size).size) (0:Int)) 5 c1 (c1+1))
noncomputable abbrev lO:List SV:=[(.fn (.func 175) [] []),(.fn (.func 176) [] []),(.fn (.func 177) [] [])]
noncomputable abbrev gd(x:PV)(k:Int):List SV:=[(.str x.name false),(.int .i64 k false),(.xs x.A x.n x.c),(.int .i64 8 true),(.bool x.path false),(.ifc 147 (.agg lO))]
noncomputable abbrev gf(s:ByteArray)(off:Nat):List SV:=[(.str s false),(.ptr 1 0),(.int .i64 ((↑off:Int)) false)]
noncomputable abbrev sf(s:ByteArray)(off c1 k0_:Nat):SV:=(.slc k0_ 0 ((s.extract (↑off:Int).toNat s.size).size) c1 false false)
noncomputable abbrev nZ(off:Nat)(s:ByteArray):Prop:=((0:Int)<=(↑off:Int)/\(↑off:Int)<=(↑s.size:Int))
noncomputable abbrev Ah:ByteArray:=(ByteArray.mk #[99,111,109,112,111,110,101,110,116,32,115,105,122,101,32,109,105,115,109,97,116,99,104,58,32,33,61])
noncomputable abbrev n7(s:ByteArray)(x:PV)(c0:Nat):SObj:=(.ints .u8 (List.map (fun b=>(↑b.toNat:Int)) (#[].extract 0 0++s.data.extract 0 (0+((↑x.n:Int).toNat-0))++#[].extract (0+min ((↑x.n:Int).toNat-0) (s.data.size-0)) 0).toList++List.replicate (c0-(s.extract 0 (↑x.n:Int).toNat).size) (0:Int)) 5 c0 (c0+1))
noncomputable abbrev Ai(s:ByteArray)(off:Nat)(x:PV)(k:Int)(c0 c1 c3:Nat):List SObj:=[(.cells (gf s off) 3 64 0 0),(.cells (gd x k) 6 88 0 0),(n7 s x c0),(nY s off c1),(.cells lO 3 147 0 0),(nY s off c3)]
theorem Pn(s:ByteArray)(off:Nat)(x:PV)(k:Int)(w:World)(bs:List Nat):al Tryz.prog ju 3000 91 [.ptr 0 0] (SS.mk (vO s off x k (8) yn) [] true w bs) =
(.split (decide ((↑off:Int) > (↑s.size:Int))) (.leaf .ret [(.ifc 105 (.ptr 2 0))] (SS.mk [(.cells (gf s off) 3 64 0 0),(.cells (gd x k) 6 88 0 0),(.cells [(.str (ByteArray.mk #[99,111,109,112,111,110,101,110,116,32,118,97,108,117,101,83,116,97,114,116,73,100,120,32,105,115,32,103,114,101,97,116,101,114,32,116,104,97,110,32,116,104,101,32,108,101,110,103,116,104,32,111,102,32,116,104,101,32,99,111,109,112,111,110,101,110,116,39,115,32,98,121,116,101,115]) true)] 1 107 0 0)] [] true w bs)) (.split ((↑x.n:Int) == (0:Int)) (.leaf .ret [(.ifc 105 (.ptr 2 0))] (SS.mk [(.cells (gf s off) 3 64 0 0),(.cells (gd x k) 6 88 0 0),(.cells [(.str (ByteArray.mk #[67,111,109,112,111,110,101,110,116,32,105,115,32,109,105,115,115,105,110,103,32,105,116,115,32,112,114,111,116,111,99,111,108,39,115,32,86,67,111,100,101,32,102,105,101,108,100]) true)] 1 107 0 0)] [] true w bs)) (.split (decide ((↑s.size:Int)<(↑x.n:Int))) (.leaf .ret [(.ifc 105 (.ptr 2 0))] (SS.mk [(.cells (gf s off) 3 64 0 0),(.cells (gd x k) 6 88 0 0),(.cells [(.str Ah true)] 1 107 0 0)] [] true w bs)) (.need ((0:Int)<=(↑x.n:Int)/\(↑x.n:Int)<=(↑s.size:Int)) (.choose (.appendCap ((s.extract 0 (↑x.n:Int).toNat).size) 0 5) fun c0=>(.need (x.A=x.A/\x.n=x.n/\x.c=x.c) (.need (0=0) (.need (0+(s.extract 0 (↑x.n:Int).toNat).size<=(List.map (fun b=>(↑b.toNat:Int)) (#[].extract 0 0++s.data.extract 0 (0+((↑x.n:Int).toNat-0))++#[].extract (0+min ((↑x.n:Int).toNat-0) (s.data.size-0)) 0).toList++List.replicate (c0-(s.extract 0 (↑x.n:Int).toNat).size) (0:Int)).length) (.need (canBytes w bs x.A x.n) (.split (!(bytesOf (List.take (s.extract 0 (↑x.n:Int).toNat).size (List.drop 0 (List.map (fun b=>(↑b.toNat:Int)) (#[].extract 0 0++s.data.extract 0 (0+((↑x.n:Int).toNat-0))++#[].extract (0+min ((↑x.n:Int).toNat-0) (s.data.size-0)) 0).toList++List.replicate (c0-(s.extract 0 (↑x.n:Int).toNat).size) (0:Int))))).toList == (bytesAt w x.A x.n).toList) (.leaf .ret [(.ifc 105 (.ptr 3 0))] (SS.mk [(.cells (gf s off) 3 64 0 0),(.cells (gd x k) 6 88 0 0),(n7 s x c0),(.cells [(.str (ByteArray.mk #[99,111,109,112,111,110,101,110,116,39,115,32,86,67,111,100,101,32,102,105,101,108,100,32,105,115,32,105,110,118,97,108,105,100,58,32,33,61]) true)] 1 107 0 0)] [] true w bs)) (.need (nZ off s) (.split (i64.wrap (Int.tdiv (8:Int) (8:Int)) != (↑(s.extract (↑off:Int).toNat s.size).size:Int)) (.leaf .ret [(.ifc 105 (.ptr 3 0))] (SS.mk [(.cells (gf s off) 3 64 0 0),(.cells (gd x k) 6 88 0 0),(n7 s x c0),(.cells [(.str (ByteArray.mk #[99,111,109,112,111,110,101,110,116,32,118,97,108,117,101,32,115,105,122,101,32,109,105,115,109,97,116,99,104,58,32,33,61]) true)] 1 107 0 0)] [] true w bs)) (.split (i64.wrap ((↑x.n:Int)+i64.wrap (Int.tdiv (8:Int) (8:Int))) != (↑s.size:Int)) (.leaf .ret [(.ifc 105 (.ptr 3 0))] (SS.mk [(.cells (gf s off) 3 64 0 0),(.cells (gd x k) 6 88 0 0),(n7 s x c0),(.cells [(.str Ah true)] 1 107 0 0)] [] true w bs)) (.need (nZ off s) (.choose (.appendCap ((s.extract (↑off:Int).toNat s.size).size) 0 5) fun c1=>(.need (Fn.func 175=Fn.func 175) (.need (Fn.func 176=Fn.func 176) (.need (Fn.func 177=Fn.func 177) (.need (0=0) (.hc 176 [(sf s off c1 3)] (SS.mk [(.cells (gf s off) 3 64 0 0),(.cells (gd x k) 6 88 0 0),(n7 s x c0),(nY s off c1),(.cells lO 3 147 0 0)] [] true w bs) (c9) fun x2 w2 b2=>(.need (nZ off s) (.choose (.appendCap ((s.extract (↑off:Int).toNat s.size).size) 0 5) fun c3=>(.need (Fn.func 175=Fn.func 175) (.need (Fn.func 176=Fn.func 176) (.need (Fn.func 177=Fn.func 177) (.need (0=0) (.hc 391 [(.agg lO),(sf s off c3 5)] (SS.mk (Ai s off x k c0 c1 c3) [] true w2 b2) (cA) fun x4 w4 b4=>(.leaf .ret [(.one .nilIface rfl)] (SS.mk (Ai s off x k c0 c1 c3) [] true w4 b4))))))))))))))))))))))))))))):=by kernel_rfl
theorem vC(s:ByteArray)(off:Nat)(x:PV)(k:Int)(w:World)(bs:List Nat):(by have h:=Pn s off x k w bs;unfold Ai n7 Ah nZ sf gf gd lO nY at h;exact type_of% h):=Pn s off x k w bs
noncomputable abbrev vw(s:ByteArray)(off:Nat)(x:PV)(k:Int)(c0:Nat):List SObj:=[(.cells (gf s off) 3 64 0 0),(.cells (gd x k) 6 88 0 0),(nY s off c0),(.cells lO 3 147 0 0)]
theorem OP(s:ByteArray)(off:Nat)(x:PV)(k:Int)(w:World)(bs:List Nat):al Tryz.prog ju 3000 72 [.ptr 0 0] (SS.mk (vO s off x k (8) yn) [] true w bs) =
(.need (nZ off s) (.choose (.appendCap ((s.extract (↑off:Int).toNat s.size).size) 0 5) fun c0=>(.need (Fn.func 175=Fn.func 175) (.need (Fn.func 176=Fn.func 176) (.need (Fn.func 177=Fn.func 177) (.need (0=0) (.hc 176 [(sf s off c0 2)] (SS.mk (vw s off x k c0) [] true w bs) (c9) fun x1 w1 b1=>(.leaf .ret [(.tup [(.str x1 false),(.one .nilIface rfl)])] (SS.mk (vw s off x k c0) [] true w1 b1))))))))):=by kernel_rfl
theorem eC(s:ByteArray)(off:Nat)(x:PV)(k:Int)(w:World)(bs:List Nat):(by have h:=OP s off x k w bs;unfold vw nZ sf gf gd lO nY at h;exact type_of% h):=OP s off x k w bs
end
section
open Go Go.Rx Go.RowKit
theorem JP{β:Nat->Nat}{w:World}(x:PV)(kn:Nat)(a:UInt8)(hx:x.n=(uv kn).length)(hk:(uv kn).length<20)(hat:aH β (vO ⟨(uv kn++[a]).toArray⟩ (uv kn).length x kn 8 yn) w)(hlt:∀i,i<2->β i<w.heap.size)(hinj:∀i j,i<2->j<2->β i=β j->i=j)(hv:Bts w w.heap.size x.A x.n (uv kn))(hvn:∀ad,x.A=some ad->ad.block ∉ ac β 2)(ht:Tens w) :
  Calls Tryz.prog 91 #[.pointer (some ⟨β 0,0,none⟩)] w fun e w'=>e=.returned .nilIface/\Below w.heap.size w w':=by
 obtain⟨nm,A0,n0,cc,sz,pth,tr⟩:=x
 dsimp only at hx hv hvn
 subst hx
 obtain⟨o1,o2,o3⟩:=dS ⟨(uv kn++[a]).toArray⟩ (uv kn).length ⟨nm,A0,(uv kn).length,cc,sz,pth,tr⟩ kn 8 yn (by simp[yn,SV.ok,be])
 have hst:=St.head (P:=Tryz.prog) (Q:=bH fun v w'=>v=.nilIface/\Below w.heap.size w w') o1 hlt hinj hat o2
 refine(fV (hk:=ju) (n:=3000) (args:=[.ptr 0 0]) (Q:=fun v w'=>v=.nilIface/\Below w.heap.size w w') hst ⟨by simp[SV.ok,SS.n],trivial⟩ ?_).mono ?_
 rotate_left
 ·rintro e w' ⟨v,rfl,rfl,h2⟩
  exact⟨rfl,h2⟩
 have hp:=fv kn
 have hL:(uv kn++[a]).length=(uv kn).length+1:=by simp
 refine ah (vC _ _ _ kn w (ac β 2)) ?_
 have m1:min (uv kn).length ((uv kn).length+1)=(uv kn).length:=by omega
 have t2:List.take ((uv kn).length+1) (uv kn++[a])=uv kn++[a]:=List.take_of_length_le (by simp)
 simp only[jo,jp,aC,hL,Int.toNat_natCast,m1,t2,Nat.sub_zero,Nat.zero_add,List.drop_zero,List.take_left,List.drop_left,Nat.min_self,Nat.add_sub_cancel_left,Nat.add_sub_cancel' (Nat.le_add_right _ _)]
 have below:∀ {Γ:Ctx}{β':Nat->Nat}{s:SS}{w':World},Γ={ P:=Tryz.prog,β0:=β,n0:=2,Q:=bH fun v w'=>v=.nilIface/\Below w.heap.size w w' }->St Γ β' s w'->s.objs.take 2=vO ⟨(uv kn++[a]).toArray⟩ (uv kn).length ⟨nm,A0,(uv kn).length,cc,sz,pth,tr⟩ kn 8 yn->Keep (ac β 2) w w'->Below w.heap.size w w':=by
  rintro Γ β' s w' rfl hs ho hk
  exact bp hk hat (hs.objsAt ho o2) o1 o3
 refine ak (fun h=>by omega) (fun _=>ae (fun h=>by have:=eq_of_beq h;omega) (fun _=>ak (fun h=>by omega) (fun _=>aa (by omega) (aD ?_))))
 rintro c0 ⟨_,hc0⟩
 refine aa (by simp) (aa trivial (aa (by simp) (aa (hv.canBytesN (Nat.le_refl _) hvn) (ae (fun h=>?_) (fun _=>?_)))))
 ·rw[hv.bytesAt,iB]at h
  simp at h
 have w2:i64.wrap (Int.tdiv 8 8)=1:=by decide
 refine aa (by omega) (ae (fun h=>absurd h (by decide)) (fun _=>ae (fun h=>?_) (fun _=>aa (by omega) (aD ?_))))
 ·rw[w2,aq (by omega) (by omega)]at h
  simp at h
 rintro c1 ⟨_,hc1⟩
 have hcut1:1<=c1:=hc1 ▸ bf
 refine aa trivial (aa trivial (aa trivial (aa trivial ?_)))
 refine cj (w:=w) (bs:=ac β 2) (R:=fun(_:ByteArray) _ _=>True) ⟨rfl,Keep.refl _ _,fun b hb=>.inl hb⟩ (fun x=>⟨rfl,trivial,trivial,trivial⟩) (fun β' wc hs o hk=>?_) ?_
 ·have hbw:=below rfl hs rfl hk
  have h4:=hs.at_ 3 _ rfl
  have hb:=br (n:=1) h4 rfl (hs.lt 3 (by simp[SS.n]))
  refine(AW _ _ a _ wc hb (Nat.le_refl _) (ht.below hbw ht.lt)).mono ?_
  rintro e w' ⟨v,rfl,rfl,hb'⟩
  exact⟨_,rfl,hb',trivial⟩
 rintro x2 wc2 w2' b2 hk2 _ hb2 hkw2 hbs2
 refine aa (by omega) (aD ?_)
 rintro c3 ⟨_,hc3⟩
 refine aa trivial (aa trivial (aa trivial (aa trivial ?_)))
 refine cj (w:=w) (bs:=ac β 2) (R:=fun(_:Unit) _ _=>True) ⟨rfl,hkw2,hbs2⟩ (fun x=>⟨rfl,trivial⟩) (fun β' wc hs o hk=>?_) ?_
 ·refine(jQ (.func 175) (.func 176) _ wc fun w1 _=>(AY _ _ _).mono (by rintro e w' ⟨v,rfl,rfl,hb'⟩;exact⟨rfl,hb'⟩)).mono ?_
  rintro e w' ⟨rfl,hb'⟩
  exact⟨(),rfl,hb',trivial⟩
 rintro x4 wc4 w4 b4 hk4 _ hb4 hkw4 hbs4
 exact aJ (w:=w) (bs:=ac β 2) ⟨rfl,hkw4,hbs4⟩ fun β' w' hs hk=>⟨_,rfl,rfl,below rfl hs rfl hk⟩
end
section
open Go Go.Rx Go.RowKit
noncomputable abbrev oh(s:ByteArray)(off c1:Nat):SObj:=(.ints .u8 (List.map (fun b=>(↑b.toNat:Int)) (#[].extract 0 0++s.data.extract (↑off:Int).toNat ((↑off:Int).toNat+(s.size-(↑off:Int).toNat))++#[].extract (0+min (s.size-(↑off:Int).toNat) (s.data.size-(↑off:Int).toNat)) 0).toList++List.replicate (c1-(s.extract (↑off:Int).toNat s.size).size) (0:Int)) 5 c1 (c1+1))
noncomputable abbrev lU:List SV:=[(.fn (.func 202) [] []),(.fn (.func 203) [] []),(.fn (.func 204) [] [])]
noncomputable abbrev gi(x:PV)(k:Int):List SV:=[(.str x.name false),(.int .i64 k false),(.xs x.A x.n x.c),(.int .i64 64 true),(.bool x.path false),(.ifc 147 (.agg lU))]
noncomputable abbrev gj(s:ByteArray)(off:Nat):List SV:=[(.str s false),(.ptr 1 0),(.int .i64 ((↑off:Int)) false)]
noncomputable abbrev si(s:ByteArray)(off c1 k0_:Nat):SV:=(.slc k0_ 0 ((s.extract (↑off:Int).toNat s.size).size) c1 false false)
noncomputable abbrev ol(off:Nat)(s:ByteArray):Prop:=((0:Int)<=(↑off:Int)/\(↑off:Int)<=(↑s.size:Int))
noncomputable abbrev Am:ByteArray:=(ByteArray.mk #[99,111,109,112,111,110,101,110,116,32,115,105,122,101,32,109,105,115,109,97,116,99,104,58,32,33,61])
noncomputable abbrev om(s:ByteArray)(x:PV)(c0:Nat):SObj:=(.ints .u8 (List.map (fun b=>(↑b.toNat:Int)) (#[].extract 0 0++s.data.extract 0 (0+((↑x.n:Int).toNat-0))++#[].extract (0+min ((↑x.n:Int).toNat-0) (s.data.size-0)) 0).toList++List.replicate (c0-(s.extract 0 (↑x.n:Int).toNat).size) (0:Int)) 5 c0 (c0+1))
noncomputable abbrev An(s:ByteArray)(off:Nat)(x:PV)(k:Int)(c0 c1 c3:Nat):List SObj:=[(.cells (gj s off) 3 64 0 0),(.cells (gi x k) 6 88 0 0),(om s x c0),(oh s off c1),(.cells lU 3 147 0 0),(oh s off c3)]
theorem Pq(s:ByteArray)(off:Nat)(x:PV)(k:Int)(w:World)(bs:List Nat):al Tryz.prog ju 3000 91 [.ptr 0 0] (SS.mk (vO s off x k (64) yq) [] true w bs) =
(.split (decide ((↑off:Int) > (↑s.size:Int))) (.leaf .ret [(.ifc 105 (.ptr 2 0))] (SS.mk [(.cells (gj s off) 3 64 0 0),(.cells (gi x k) 6 88 0 0),(.cells [(.str (ByteArray.mk #[99,111,109,112,111,110,101,110,116,32,118,97,108,117,101,83,116,97,114,116,73,100,120,32,105,115,32,103,114,101,97,116,101,114,32,116,104,97,110,32,116,104,101,32,108,101,110,103,116,104,32,111,102,32,116,104,101,32,99,111,109,112,111,110,101,110,116,39,115,32,98,121,116,101,115]) true)] 1 107 0 0)] [] true w bs)) (.split ((↑x.n:Int) == (0:Int)) (.leaf .ret [(.ifc 105 (.ptr 2 0))] (SS.mk [(.cells (gj s off) 3 64 0 0),(.cells (gi x k) 6 88 0 0),(.cells [(.str (ByteArray.mk #[67,111,109,112,111,110,101,110,116,32,105,115,32,109,105,115,115,105,110,103,32,105,116,115,32,112,114,111,116,111,99,111,108,39,115,32,86,67,111,100,101,32,102,105,101,108,100]) true)] 1 107 0 0)] [] true w bs)) (.split (decide ((↑s.size:Int)<(↑x.n:Int))) (.leaf .ret [(.ifc 105 (.ptr 2 0))] (SS.mk [(.cells (gj s off) 3 64 0 0),(.cells (gi x k) 6 88 0 0),(.cells [(.str Am true)] 1 107 0 0)] [] true w bs)) (.need ((0:Int)<=(↑x.n:Int)/\(↑x.n:Int)<=(↑s.size:Int)) (.choose (.appendCap ((s.extract 0 (↑x.n:Int).toNat).size) 0 5) fun c0=>(.need (x.A=x.A/\x.n=x.n/\x.c=x.c) (.need (0=0) (.need (0+(s.extract 0 (↑x.n:Int).toNat).size<=(List.map (fun b=>(↑b.toNat:Int)) (#[].extract 0 0++s.data.extract 0 (0+((↑x.n:Int).toNat-0))++#[].extract (0+min ((↑x.n:Int).toNat-0) (s.data.size-0)) 0).toList++List.replicate (c0-(s.extract 0 (↑x.n:Int).toNat).size) (0:Int)).length) (.need (canBytes w bs x.A x.n) (.split (!(bytesOf (List.take (s.extract 0 (↑x.n:Int).toNat).size (List.drop 0 (List.map (fun b=>(↑b.toNat:Int)) (#[].extract 0 0++s.data.extract 0 (0+((↑x.n:Int).toNat-0))++#[].extract (0+min ((↑x.n:Int).toNat-0) (s.data.size-0)) 0).toList++List.replicate (c0-(s.extract 0 (↑x.n:Int).toNat).size) (0:Int))))).toList == (bytesAt w x.A x.n).toList) (.leaf .ret [(.ifc 105 (.ptr 3 0))] (SS.mk [(.cells (gj s off) 3 64 0 0),(.cells (gi x k) 6 88 0 0),(om s x c0),(.cells [(.str (ByteArray.mk #[99,111,109,112,111,110,101,110,116,39,115,32,86,67,111,100,101,32,102,105,101,108,100,32,105,115,32,105,110,118,97,108,105,100,58,32,33,61]) true)] 1 107 0 0)] [] true w bs)) (.need (ol off s) (.split (i64.wrap (Int.tdiv (64:Int) (8:Int)) != (↑(s.extract (↑off:Int).toNat s.size).size:Int)) (.leaf .ret [(.ifc 105 (.ptr 3 0))] (SS.mk [(.cells (gj s off) 3 64 0 0),(.cells (gi x k) 6 88 0 0),(om s x c0),(.cells [(.str (ByteArray.mk #[99,111,109,112,111,110,101,110,116,32,118,97,108,117,101,32,115,105,122,101,32,109,105,115,109,97,116,99,104,58,32,33,61]) true)] 1 107 0 0)] [] true w bs)) (.split (i64.wrap ((↑x.n:Int)+i64.wrap (Int.tdiv (64:Int) (8:Int))) != (↑s.size:Int)) (.leaf .ret [(.ifc 105 (.ptr 3 0))] (SS.mk [(.cells (gj s off) 3 64 0 0),(.cells (gi x k) 6 88 0 0),(om s x c0),(.cells [(.str Am true)] 1 107 0 0)] [] true w bs)) (.need (ol off s) (.choose (.appendCap ((s.extract (↑off:Int).toNat s.size).size) 0 5) fun c1=>(.need (Fn.func 202=Fn.func 202) (.need (Fn.func 203=Fn.func 203) (.need (Fn.func 204=Fn.func 204) (.need (0=0) (.hc 203 [(si s off c1 3)] (SS.mk [(.cells (gj s off) 3 64 0 0),(.cells (gi x k) 6 88 0 0),(om s x c0),(oh s off c1),(.cells lU 3 147 0 0)] [] true w bs) (c9) fun x2 w2 b2=>(.need (ol off s) (.choose (.appendCap ((s.extract (↑off:Int).toNat s.size).size) 0 5) fun c3=>(.need (Fn.func 202=Fn.func 202) (.need (Fn.func 203=Fn.func 203) (.need (Fn.func 204=Fn.func 204) (.need (0=0) (.hc 391 [(.agg lU),(si s off c3 5)] (SS.mk (An s off x k c0 c1 c3) [] true w2 b2) (cA) fun x4 w4 b4=>(.leaf .ret [(.one .nilIface rfl)] (SS.mk (An s off x k c0 c1 c3) [] true w4 b4))))))))))))))))))))))))))))):=by kernel_rfl
theorem vM(s:ByteArray)(off:Nat)(x:PV)(k:Int)(w:World)(bs:List Nat):(by have h:=Pq s off x k w bs;unfold An om Am ol si gj gi lU oh at h;exact type_of% h):=Pq s off x k w bs
noncomputable abbrev vB(s:ByteArray)(off:Nat)(x:PV)(k:Int)(c0:Nat):List SObj:=[(.cells (gj s off) 3 64 0 0),(.cells (gi x k) 6 88 0 0),(oh s off c0),(.cells lU 3 147 0 0)]
theorem OT(s:ByteArray)(off:Nat)(x:PV)(k:Int)(w:World)(bs:List Nat):al Tryz.prog ju 3000 72 [.ptr 0 0] (SS.mk (vO s off x k (64) yq) [] true w bs) =
(.need (ol off s) (.choose (.appendCap ((s.extract (↑off:Int).toNat s.size).size) 0 5) fun c0=>(.need (Fn.func 202=Fn.func 202) (.need (Fn.func 203=Fn.func 203) (.need (Fn.func 204=Fn.func 204) (.need (0=0) (.hc 203 [(si s off c0 2)] (SS.mk (vB s off x k c0) [] true w bs) (c9) fun x1 w1 b1=>(.leaf .ret [(.tup [(.str x1 false),(.one .nilIface rfl)])] (SS.mk (vB s off x k c0) [] true w1 b1))))))))):=by kernel_rfl
theorem eM(s:ByteArray)(off:Nat)(x:PV)(k:Int)(w:World)(bs:List Nat):(by have h:=OT s off x k w bs;unfold vB ol si gj gi lU oh at h;exact type_of% h):=OT s off x k w bs
end
section
open Go Go.Rx Go.RowKit
theorem JS{β:Nat->Nat}{w:World}(x:PV)(kn:Nat)(a b c d e f g h:UInt8)(hx:x.n=(uv kn).length)(hk:(uv kn).length<20)(hat:aH β (vO ⟨(uv kn++[a,b,c,d,e,f,g,h]).toArray⟩ (uv kn).length x kn 64 yq) w)(hlt:∀i,i<2->β i<w.heap.size)(hinj:∀i j,i<2->j<2->β i=β j->i=j)(hv:Bts w w.heap.size x.A x.n (uv kn))(hvn:∀ad,x.A=some ad->ad.block ∉ ac β 2)(ht:Tens w) :
  Calls Tryz.prog 91 #[.pointer (some ⟨β 0,0,none⟩)] w fun e w'=>e=.returned .nilIface/\Below w.heap.size w w':=by
 obtain⟨nm,A0,n0,cc,sz,pth,tr⟩:=x
 dsimp only at hx hv hvn
 subst hx
 obtain⟨o1,o2,o3⟩:=dS ⟨(uv kn++[a,b,c,d,e,f,g,h]).toArray⟩ (uv kn).length ⟨nm,A0,(uv kn).length,cc,sz,pth,tr⟩ kn 64 yq (by simp[yq,SV.ok,be])
 have hst:=St.head (P:=Tryz.prog) (Q:=bH fun v w'=>v=.nilIface/\Below w.heap.size w w') o1 hlt hinj hat o2
 refine(fV (hk:=ju) (n:=3000) (args:=[.ptr 0 0]) (Q:=fun v w'=>v=.nilIface/\Below w.heap.size w w') hst ⟨by simp[SV.ok,SS.n],trivial⟩ ?_).mono ?_
 rotate_left
 ·rintro e w' ⟨v,rfl,rfl,h2⟩
  exact⟨rfl,h2⟩
 have hp:=fv kn
 have hL:(uv kn++[a,b,c,d,e,f,g,h]).length=(uv kn).length+8:=by simp
 refine ah (vM _ _ _ kn w (ac β 2)) ?_
 have m1:min (uv kn).length ((uv kn).length+8)=(uv kn).length:=by omega
 have t2:List.take ((uv kn).length+8) (uv kn++[a,b,c,d,e,f,g,h])=uv kn++[a,b,c,d,e,f,g,h]:=List.take_of_length_le (by simp)
 simp only[jo,jp,aC,hL,Int.toNat_natCast,m1,t2,Nat.sub_zero,Nat.zero_add,List.drop_zero,List.take_left,List.drop_left,Nat.min_self,Nat.add_sub_cancel_left,Nat.add_sub_cancel' (Nat.le_add_right _ _)]
 have below:∀ {Γ:Ctx}{β':Nat->Nat}{s:SS}{w':World},Γ={ P:=Tryz.prog,β0:=β,n0:=2,Q:=bH fun v w'=>v=.nilIface/\Below w.heap.size w w' }->St Γ β' s w'->s.objs.take 2=vO ⟨(uv kn++[a,b,c,d,e,f,g,h]).toArray⟩ (uv kn).length ⟨nm,A0,(uv kn).length,cc,sz,pth,tr⟩ kn 64 yq->Keep (ac β 2) w w'->Below w.heap.size w w':=by
  rintro Γ β' s w' rfl hs ho hk
  exact bp hk hat (hs.objsAt ho o2) o1 o3
 refine ak (fun h=>by omega) (fun _=>ae (fun h=>by have:=eq_of_beq h;omega) (fun _=>ak (fun h=>by omega) (fun _=>aa (by omega) (aD ?_))))
 rintro c0 ⟨_,hc0⟩
 refine aa (by simp) (aa trivial (aa (by simp) (aa (hv.canBytesN (Nat.le_refl _) hvn) (ae (fun h=>?_) (fun _=>?_)))))
 ·rw[hv.bytesAt,iB]at h
  simp at h
 have w2:i64.wrap (Int.tdiv 64 8)=8:=by decide
 refine aa (by omega) (ae (fun h=>absurd h (by decide)) (fun _=>ae (fun h=>?_) (fun _=>aa (by omega) (aD ?_))))
 ·rw[w2,aq (by omega) (by omega)]at h
  simp at h
 rintro c1 ⟨_,hc1⟩
 have hcut1:8<=c1:=hc1 ▸ bf
 refine aa trivial (aa trivial (aa trivial (aa trivial ?_)))
 refine cj (w:=w) (bs:=ac β 2) (R:=fun(_:ByteArray) _ _=>True) ⟨rfl,Keep.refl _ _,fun b hb=>.inl hb⟩ (fun x=>⟨rfl,trivial,trivial,trivial⟩) (fun β' wc hs o hk=>?_) ?_
 ·have hbw:=below rfl hs rfl hk
  have h4:=hs.at_ 3 _ rfl
  have hb:=br (n:=8) h4 rfl (hs.lt 3 (by simp[SS.n]))
  refine(Ef _ _ a b c d e f g h _ wc hb (Nat.le_refl _) (ht.below hbw ht.lt)).mono ?_
  rintro e w' ⟨v,rfl,rfl,hb'⟩
  exact⟨_,rfl,hb',trivial⟩
 rintro x2 wc2 w2' b2 hk2 _ hb2 hkw2 hbs2
 refine aa (by omega) (aD ?_)
 rintro c3 ⟨_,hc3⟩
 refine aa trivial (aa trivial (aa trivial (aa trivial ?_)))
 refine cj (w:=w) (bs:=ac β 2) (R:=fun(_:Unit) _ _=>True) ⟨rfl,hkw2,hbs2⟩ (fun x=>⟨rfl,trivial⟩) (fun β' wc hs o hk=>?_) ?_
 ·refine(kX (.func 202) (.func 203) _ wc fun w1 _=>(Eh _ _ _).mono (by rintro e w' ⟨v,rfl,rfl,hb'⟩;exact⟨rfl,hb'⟩)).mono ?_
  rintro e w' ⟨rfl,hb'⟩
  exact⟨(),rfl,hb',trivial⟩
 rintro x4 wc4 w4 b4 hk4 _ hb4 hkw4 hbs4
 exact aJ (w:=w) (bs:=ac β 2) ⟨rfl,hkw4,hbs4⟩ fun β' w' hs hk=>⟨_,rfl,rfl,below rfl hs rfl hk⟩
end
section
open Go Go.Rx Go.RowKit
noncomputable abbrev n8(s:ByteArray)(off c3:Nat):SObj:=(.ints .u8 (List.map (fun b=>(↑b.toNat:Int)) (#[].extract 0 0++s.data.extract (↑off:Int).toNat ((↑off:Int).toNat+(s.size-(↑off:Int).toNat))++#[].extract (0+min (s.size-(↑off:Int).toNat) (s.data.size-(↑off:Int).toNat)) 0).toList++List.replicate (c3-(s.extract (↑off:Int).toNat s.size).size) (0:Int)) 5 c3 (c3+1))
noncomputable abbrev lQ:List SV:=[(.fn (.func 167) [] []),(.fn (.func 168) [] []),(.fn (.func 169) [] [])]
noncomputable abbrev fx(x:PV)(k:Int):List SV:=[(.str x.name false),(.int .i64 k false),(.xs x.A x.n x.c),(.int .i64 (-1) true),(.bool x.path false),(.ifc 147 (.agg lQ))]
noncomputable abbrev fy(s:ByteArray)(off:Nat):List SV:=[(.str s false),(.ptr 1 0),(.int .i64 ((↑off:Int)) false)]
noncomputable abbrev sg(s:ByteArray)(off c3 k0_:Nat):SV:=(.slc k0_ 0 ((s.extract (↑off:Int).toNat s.size).size) c3 false false)
noncomputable abbrev n9(off:Nat)(s:ByteArray):Prop:=((0:Int)<=(↑off:Int)/\(↑off:Int)<=(↑s.size:Int))
noncomputable abbrev Aj:ByteArray:=(ByteArray.mk #[99,111,109,112,111,110,101,110,116,32,115,105,122,101,32,109,105,115,109,97,116,99,104,58,32,33,61])
noncomputable abbrev oa(s:ByteArray)(x:PV)(c1:Nat):SObj:=(.ints .u8 (List.map (fun b=>(↑b.toNat:Int)) (#[].extract 0 0++s.data.extract (↑x.n:Int).toNat ((↑x.n:Int).toNat+(s.size-(↑x.n:Int).toNat))++#[].extract (0+min (s.size-(↑x.n:Int).toNat) (s.data.size-(↑x.n:Int).toNat)) 0).toList++List.replicate (c1-(s.extract (↑x.n:Int).toNat s.size).size) (0:Int)) 5 c1 (c1+1))
noncomputable abbrev lR(s:ByteArray)(x:PV)(c0:Nat):SObj:=(.ints .u8 (List.map (fun b=>(↑b.toNat:Int)) (#[].extract 0 0++s.data.extract 0 (0+((↑x.n:Int).toNat-0))++#[].extract (0+min ((↑x.n:Int).toNat-0) (s.data.size-0)) 0).toList++List.replicate (c0-(s.extract 0 (↑x.n:Int).toNat).size) (0:Int)) 5 c0 (c0+1))
noncomputable abbrev vy(s:ByteArray)(off:Nat)(x:PV)(k:Int)(c0 c1 c3 c5:Nat):List SObj:=[(.cells (fy s off) 3 64 0 0),(.cells (fx x k) 6 88 0 0),(lR s x c0),(oa s x c1),(n8 s off c3),(.cells lQ 3 147 0 0),(n8 s off c5)]
theorem Po(s:ByteArray)(off:Nat)(x:PV)(k:Int)(w:World)(bs:List Nat):al Tryz.prog ju 3000 91 [.ptr 0 0] (SS.mk (vO s off x k (-1) yN) [] true w bs) =
(.split (decide ((↑off:Int) > (↑s.size:Int))) (.leaf .ret [(.ifc 105 (.ptr 2 0))] (SS.mk [(.cells (fy s off) 3 64 0 0),(.cells (fx x k) 6 88 0 0),(.cells [(.str (ByteArray.mk #[99,111,109,112,111,110,101,110,116,32,118,97,108,117,101,83,116,97,114,116,73,100,120,32,105,115,32,103,114,101,97,116,101,114,32,116,104,97,110,32,116,104,101,32,108,101,110,103,116,104,32,111,102,32,116,104,101,32,99,111,109,112,111,110,101,110,116,39,115,32,98,121,116,101,115]) true)] 1 107 0 0)] [] true w bs)) (.split ((↑x.n:Int) == (0:Int)) (.leaf .ret [(.ifc 105 (.ptr 2 0))] (SS.mk [(.cells (fy s off) 3 64 0 0),(.cells (fx x k) 6 88 0 0),(.cells [(.str (ByteArray.mk #[67,111,109,112,111,110,101,110,116,32,105,115,32,109,105,115,115,105,110,103,32,105,116,115,32,112,114,111,116,111,99,111,108,39,115,32,86,67,111,100,101,32,102,105,101,108,100]) true)] 1 107 0 0)] [] true w bs)) (.split (decide ((↑s.size:Int)<(↑x.n:Int))) (.leaf .ret [(.ifc 105 (.ptr 2 0))] (SS.mk [(.cells (fy s off) 3 64 0 0),(.cells (fx x k) 6 88 0 0),(.cells [(.str Aj true)] 1 107 0 0)] [] true w bs)) (.need ((0:Int)<=(↑x.n:Int)/\(↑x.n:Int)<=(↑s.size:Int)) (.choose (.appendCap ((s.extract 0 (↑x.n:Int).toNat).size) 0 5) fun c0=>(.need (x.A=x.A/\x.n=x.n/\x.c=x.c) (.need (0=0) (.need (0+(s.extract 0 (↑x.n:Int).toNat).size<=(List.map (fun b=>(↑b.toNat:Int)) (#[].extract 0 0++s.data.extract 0 (0+((↑x.n:Int).toNat-0))++#[].extract (0+min ((↑x.n:Int).toNat-0) (s.data.size-0)) 0).toList++List.replicate (c0-(s.extract 0 (↑x.n:Int).toNat).size) (0:Int)).length) (.need (canBytes w bs x.A x.n) (.split (!(bytesOf (List.take (s.extract 0 (↑x.n:Int).toNat).size (List.drop 0 (List.map (fun b=>(↑b.toNat:Int)) (#[].extract 0 0++s.data.extract 0 (0+((↑x.n:Int).toNat-0))++#[].extract (0+min ((↑x.n:Int).toNat-0) (s.data.size-0)) 0).toList++List.replicate (c0-(s.extract 0 (↑x.n:Int).toNat).size) (0:Int))))).toList == (bytesAt w x.A x.n).toList) (.leaf .ret [(.ifc 105 (.ptr 3 0))] (SS.mk [(.cells (fy s off) 3 64 0 0),(.cells (fx x k) 6 88 0 0),(lR s x c0),(.cells [(.str (ByteArray.mk #[99,111,109,112,111,110,101,110,116,39,115,32,86,67,111,100,101,32,102,105,101,108,100,32,105,115,32,105,110,118,97,108,105,100,58,32,33,61]) true)] 1 107 0 0)] [] true w bs)) (.need ((0:Int)<=(↑x.n:Int)/\(↑x.n:Int)<=(↑s.size:Int)) (.choose (.appendCap ((s.extract (↑x.n:Int).toNat s.size).size) 0 5) fun c1=>(.hc 96 [(.slc 3 0 ((s.extract (↑x.n:Int).toNat s.size).size) c1 false false)] (SS.mk [(.cells (fy s off) 3 64 0 0),(.cells (fx x k) 6 88 0 0),(lR s x c0),(oa s x c1)] [] true w bs) (ux) fun x2 w2 b2=>(.need (n9 off s) (.split ((↑x2.size:Int) != (↑(s.extract (↑off:Int).toNat s.size).size:Int)) (.leaf .ret [(.ifc 105 (.ptr 4 0))] (SS.mk [(.cells (fy s off) 3 64 0 0),(.cells (fx x k) 6 88 0 0),(lR s x c0),(oa s x c1),(.cells [(.str (ByteArray.mk #[99,111,109,112,111,110,101,110,116,32,118,97,108,117,101,32,115,105,122,101,32,109,105,115,109,97,116,99,104,58,32,33,61]) true)] 1 107 0 0)] [] true w2 b2)) (.split (i64.wrap (i64.wrap ((↑x.n:Int)+(↑x2.n:Int))+(↑x2.size:Int)) != (↑s.size:Int)) (.leaf .ret [(.ifc 105 (.ptr 4 0))] (SS.mk [(.cells (fy s off) 3 64 0 0),(.cells (fx x k) 6 88 0 0),(lR s x c0),(oa s x c1),(.cells [(.str Aj true)] 1 107 0 0)] [] true w2 b2)) (.need (n9 off s) (.choose (.appendCap ((s.extract (↑off:Int).toNat s.size).size) 0 5) fun c3=>(.need (Fn.func 167=Fn.func 167) (.need (Fn.func 168=Fn.func 168) (.need (Fn.func 169=Fn.func 169) (.need (0=0) (.hc 168 [(sg s off c3 4)] (SS.mk [(.cells (fy s off) 3 64 0 0),(.cells (fx x k) 6 88 0 0),(lR s x c0),(oa s x c1),(n8 s off c3),(.cells lQ 3 147 0 0)] [] true w2 b2) (c9) fun x4 w4 b4=>(.need (n9 off s) (.choose (.appendCap ((s.extract (↑off:Int).toNat s.size).size) 0 5) fun c5=>(.need (Fn.func 167=Fn.func 167) (.need (Fn.func 168=Fn.func 168) (.need (Fn.func 169=Fn.func 169) (.need (0=0) (.hc 391 [(.agg lQ),(sg s off c5 6)] (SS.mk (vy s off x k c0 c1 c3 c5) [] true w4 b4) (cA) fun x6 w6 b6=>(.leaf .ret [(.one .nilIface rfl)] (SS.mk (vy s off x k c0 c1 c3 c5) [] true w6 b6)))))))))))))))))))))))))))))))):=by kernel_rfl
theorem vD(s:ByteArray)(off:Nat)(x:PV)(k:Int)(w:World)(bs:List Nat):(by have h:=Po s off x k w bs;unfold vy lR oa Aj n9 sg fy fx lQ n8 at h;exact type_of% h):=Po s off x k w bs
noncomputable abbrev vx(s:ByteArray)(off:Nat)(x:PV)(k:Int)(c0:Nat):List SObj:=[(.cells (fy s off) 3 64 0 0),(.cells (fx x k) 6 88 0 0),(n8 s off c0),(.cells lQ 3 147 0 0)]
theorem OQ(s:ByteArray)(off:Nat)(x:PV)(k:Int)(w:World)(bs:List Nat):al Tryz.prog ju 3000 72 [.ptr 0 0] (SS.mk (vO s off x k (-1) yN) [] true w bs) =
(.need (n9 off s) (.choose (.appendCap ((s.extract (↑off:Int).toNat s.size).size) 0 5) fun c0=>(.need (Fn.func 167=Fn.func 167) (.need (Fn.func 168=Fn.func 168) (.need (Fn.func 169=Fn.func 169) (.need (0=0) (.hc 168 [(sg s off c0 2)] (SS.mk (vx s off x k c0) [] true w bs) (c9) fun x1 w1 b1=>(.leaf .ret [(.tup [(.str x1 false),(.one .nilIface rfl)])] (SS.mk (vx s off x k c0) [] true w1 b1))))))))):=by kernel_rfl
theorem eD(s:ByteArray)(off:Nat)(x:PV)(k:Int)(w:World)(bs:List Nat):(by have h:=OQ s off x k w bs;unfold vx n9 sg fy fx lQ n8 at h;exact type_of% h):=OQ s off x k w bs
end
section
open Go Go.Rx Go.RowKit
theorem JQ{β:Nat->Nat}{w:World}(x:PV)(kn:Nat)(l:List UInt8)(hn:Nm l)(hl:l.length<=2147483647)(hx:x.n=(uv kn).length)(hk:(uv kn).length<20)(hat:aH β (vO ⟨(uv kn++(uv l.length++l)).toArray⟩ ((uv kn).length+(uv l.length).length) x kn (-1) yN) w)(hlt:∀i,i<2->β i<w.heap.size)(hinj:∀i j,i<2->j<2->β i=β j->i=j)(hv:Bts w w.heap.size x.A x.n (uv kn))(hvn:∀ad,x.A=some ad->ad.block ∉ ac β 2)(ht:Tens w) :
  Calls Tryz.prog 91 #[.pointer (some ⟨β 0,0,none⟩)] w fun e w'=>e=.returned .nilIface/\Below w.heap.size w w':=by
 obtain⟨nm,A0,n0,cc,sz,pth,tr⟩:=x
 dsimp only at hx hv hvn
 subst hx
 obtain⟨o1,o2,o3⟩:=dS ⟨(uv kn++(uv l.length++l)).toArray⟩ ((uv kn).length+(uv l.length).length) ⟨nm,A0,(uv kn).length,cc,sz,pth,tr⟩ kn (-1) yN (by simp[yN,SV.ok,be])
 have hst:=St.head (P:=Tryz.prog) (Q:=bH fun v w'=>v=.nilIface/\Below w.heap.size w w') o1 hlt hinj hat o2
 refine(fV (hk:=ju) (n:=3000) (args:=[.ptr 0 0]) (Q:=fun v w'=>v=.nilIface/\Below w.heap.size w w') hst ⟨by simp[SV.ok,SS.n],trivial⟩ ?_).mono ?_
 rotate_left
 ·rintro e w' ⟨v,rfl,rfl,h2⟩
  exact⟨rfl,h2⟩
 have hp:=fv kn
 have hu:=iP 9 l.length (Nat.lt_of_le_of_lt hl (by decide))
 have hL:(uv kn++(uv l.length++l)).length=(uv kn).length+((uv l.length).length+l.length):=by simp
 refine ah (vD _ _ _ kn w (ac β 2)) ?_
 have m1:min (uv kn).length ((uv kn).length+((uv l.length).length+l.length))=(uv kn).length:=by omega
 have t2:List.take ((uv kn).length+((uv l.length).length+l.length)) (uv kn++(uv l.length++l))=uv kn++(uv l.length++l):=List.take_of_length_le (by simp)
 have t6:List.take ((uv kn).length+(uv l.length).length+l.length) (uv kn++(uv l.length++l))=uv kn++(uv l.length++l):=List.take_of_length_le (by simp;omega)
 have d2:List.drop ((uv kn).length+(uv l.length).length) (uv kn++(uv l.length++l))=l:=by rw[<- List.drop_drop,List.drop_left,List.drop_left]
 have t3:(uv kn).length+((uv l.length).length+l.length)-((uv kn).length+(uv l.length).length)=l.length:=by omega
 have t4:(uv kn).length+(uv l.length).length+((uv kn).length+((uv l.length).length+l.length)-((uv kn).length+(uv l.length).length))=(uv kn).length+((uv l.length).length+l.length):=by omega
 have t5:((((uv kn).length+(uv l.length).length:Nat)):Int).toNat=(uv kn).length+(uv l.length).length:=rfl
 simp only[jo,jp,aC,hL,Int.toNat_natCast,t5,m1,t4,t3,t2,t6,d2,Nat.sub_zero,Nat.zero_add,List.drop_zero,List.take_left,List.drop_left,Nat.min_self,Nat.add_sub_cancel_left,Nat.add_sub_cancel' (Nat.le_add_right _ _)]
 have below:∀ {Γ:Ctx}{β':Nat->Nat}{s:SS}{w':World},Γ={ P:=Tryz.prog,β0:=β,n0:=2,Q:=bH fun v w'=>v=.nilIface/\Below w.heap.size w w' }->St Γ β' s w'->s.objs.take 2=vO ⟨(uv kn++(uv l.length++l)).toArray⟩ ((uv kn).length+(uv l.length).length) ⟨nm,A0,(uv kn).length,cc,sz,pth,tr⟩ kn (-1) yN->Keep (ac β 2) w w'->Below w.heap.size w w':=by
  rintro Γ β' s w' rfl hs ho hk
  exact bp hk hat (hs.objsAt ho o2) o1 o3
 refine ak (fun h=>by omega) (fun _=>ae (fun h=>by have:=eq_of_beq h;omega) (fun _=>ak (fun h=>by omega) (fun _=>aa (by omega) (aD ?_))))
 rintro c0 ⟨_,hc0⟩
 refine aa (by simp) (aa trivial (aa (by simp) (aa (hv.canBytesN (Nat.le_refl _) hvn) (ae (fun h=>?_) (fun _=>?_)))))
 ·rw[hv.bytesAt,iB]at h
  simp at h
 refine aa (by omega) (aD ?_)
 rintro c1 ⟨_,hc1⟩
 refine cj (w:=w) (bs:=ac β 2) (R:=fun(z:RV) _ _=>z=⟨l.length,(uv l.length).length⟩) ⟨rfl,Keep.refl _ _,fun b hb=>.inl hb⟩ (fun x=>⟨rfl,trivial,trivial,trivial,trivial⟩) (fun β' wc hs o hk=>?_) ?_
 ·have h3:=br (n:=(uv l.length).length+l.length) (hs.at_ 3 _ rfl) (by simp) (hs.lt 3 (by simp[SS.n]))
  refine(f6 _ _ _ l.length l _ wc h3 (Nat.le_refl _) hl).mono ?_
  rintro e w' ⟨v,rfl,rfl,hb'⟩
  exact⟨⟨_,_⟩,rfl,hb',rfl⟩
 rintro x2 wc2 w2' b2 hk2 rfl hb2 hkw2 hbs2
 refine aa (by omega) (ae (fun h=>by simp at h) (fun _=>ae (fun h=>?_) (fun _=>aa (by omega) (aD ?_))))
 ·dsimp only at h
  rw[show i64.wrap (((uv kn).length:Int)+((uv l.length).length:Int))=(((uv kn).length+(uv l.length).length:Nat):Int) by rw[aq (by omega) (by omega)];omega,aq (by omega) (by omega)]at h
  have:=bne_iff_ne.1 h
  omega
 rintro c3 ⟨_,hc3⟩
 refine aa trivial (aa trivial (aa trivial (aa trivial ?_)))
 refine cj (w:=w) (bs:=ac β 2) (R:=fun(_:ByteArray) _ _=>True) ⟨rfl,hkw2,hbs2⟩ (fun x=>⟨rfl,trivial,trivial,trivial⟩) (fun β' wc hs o hk=>?_) ?_
 ·have h4:=br (n:=l.length) (hs.at_ 4 _ rfl) rfl (hs.lt 4 (by simp[SS.n]))
  refine(Ds _ _ _ l _ wc h4 (Nat.le_refl _)).mono ?_
  rintro e w' ⟨v,rfl,rfl,hb'⟩
  exact⟨_,rfl,hb',trivial⟩
 rintro x4 wc4 w4 b4 hk4 _ hb4 hkw4 hbs4
 refine aa (by omega) (aD ?_)
 rintro c5 ⟨_,hc5⟩
 refine aa trivial (aa trivial (aa trivial (aa trivial ?_)))
 refine cj (w:=w) (bs:=ac β 2) (R:=fun(_:Unit) _ _=>True) ⟨rfl,hkw4,hbs4⟩ (fun x=>⟨rfl,trivial⟩) (fun β' wc hs o hk=>?_) ?_
 ·have h6:=br (n:=l.length) (hs.at_ 6 _ rfl) rfl (hs.lt 6 (by simp[SS.n]))
  refine(kW (.func 167) (.func 168) _ wc fun w1 hw1=>(Du _ _ _ _ l _ w1 (h6.below hw1 (Nat.le_refl _)) hw1.size hn).mono (by rintro e w' ⟨v,rfl,rfl,hb'⟩;exact⟨rfl,hb'⟩)).mono ?_
  rintro e w' ⟨rfl,hb'⟩
  exact⟨(),rfl,hb',trivial⟩
 rintro x6 wc6 w6 b6 hk6 _ hb6 hkw6 hbs6
 exact aJ (w:=w) (bs:=ac β 2) ⟨rfl,hkw6,hbs6⟩ fun β' w' hs hk=>⟨_,rfl,rfl,below rfl hs rfl hk⟩
end
section
open Go Go.Rx Go.RowKit
noncomputable abbrev oB(s:ByteArray)(off c3:Nat):SObj:=(.ints .u8 (List.map (fun b=>(↑b.toNat:Int)) (#[].extract 0 0++s.data.extract (↑off:Int).toNat ((↑off:Int).toNat+(s.size-(↑off:Int).toNat))++#[].extract (0+min (s.size-(↑off:Int).toNat) (s.data.size-(↑off:Int).toNat)) 0).toList++List.replicate (c3-(s.extract (↑off:Int).toNat s.size).size) (0:Int)) 5 c3 (c3+1))
noncomputable abbrev lZ:List SV:=[(.fn (.func 172) [] []),(.fn (.func 173) [] []),(.fn (.func 174) [] [])]
noncomputable abbrev fC(x:PV)(k:Int):List SV:=[(.str x.name false),(.int .i64 k false),(.xs x.A x.n x.c),(.int .i64 (-1) true),(.bool x.path false),(.ifc 147 (.agg lZ))]
noncomputable abbrev fD(s:ByteArray)(off:Nat):List SV:=[(.str s false),(.ptr 1 0),(.int .i64 ((↑off:Int)) false)]
noncomputable abbrev sq(s:ByteArray)(off c3 k0_:Nat):SV:=(.slc k0_ 0 ((s.extract (↑off:Int).toNat s.size).size) c3 false false)
noncomputable abbrev oC(off:Nat)(s:ByteArray):Prop:=((0:Int)<=(↑off:Int)/\(↑off:Int)<=(↑s.size:Int))
noncomputable abbrev Aw:ByteArray:=(ByteArray.mk #[99,111,109,112,111,110,101,110,116,32,115,105,122,101,32,109,105,115,109,97,116,99,104,58,32,33,61])
noncomputable abbrev oD(s:ByteArray)(x:PV)(c1:Nat):SObj:=(.ints .u8 (List.map (fun b=>(↑b.toNat:Int)) (#[].extract 0 0++s.data.extract (↑x.n:Int).toNat ((↑x.n:Int).toNat+(s.size-(↑x.n:Int).toNat))++#[].extract (0+min (s.size-(↑x.n:Int).toNat) (s.data.size-(↑x.n:Int).toNat)) 0).toList++List.replicate (c1-(s.extract (↑x.n:Int).toNat s.size).size) (0:Int)) 5 c1 (c1+1))
noncomputable abbrev l6(s:ByteArray)(x:PV)(c0:Nat):SObj:=(.ints .u8 (List.map (fun b=>(↑b.toNat:Int)) (#[].extract 0 0++s.data.extract 0 (0+((↑x.n:Int).toNat-0))++#[].extract (0+min ((↑x.n:Int).toNat-0) (s.data.size-0)) 0).toList++List.replicate (c0-(s.extract 0 (↑x.n:Int).toNat).size) (0:Int)) 5 c0 (c0+1))
noncomputable abbrev vK(s:ByteArray)(off:Nat)(x:PV)(k:Int)(c0 c1 c3 c5:Nat):List SObj:=[(.cells (fD s off) 3 64 0 0),(.cells (fC x k) 6 88 0 0),(l6 s x c0),(oD s x c1),(oB s off c3),(.cells lZ 3 147 0 0),(oB s off c5)]
theorem Pv(s:ByteArray)(off:Nat)(x:PV)(k:Int)(w:World)(bs:List Nat):al Tryz.prog ju 3000 91 [.ptr 0 0] (SS.mk (vO s off x k (-1) yP) [] true w bs) =
(.split (decide ((↑off:Int) > (↑s.size:Int))) (.leaf .ret [(.ifc 105 (.ptr 2 0))] (SS.mk [(.cells (fD s off) 3 64 0 0),(.cells (fC x k) 6 88 0 0),(.cells [(.str (ByteArray.mk #[99,111,109,112,111,110,101,110,116,32,118,97,108,117,101,83,116,97,114,116,73,100,120,32,105,115,32,103,114,101,97,116,101,114,32,116,104,97,110,32,116,104,101,32,108,101,110,103,116,104,32,111,102,32,116,104,101,32,99,111,109,112,111,110,101,110,116,39,115,32,98,121,116,101,115]) true)] 1 107 0 0)] [] true w bs)) (.split ((↑x.n:Int) == (0:Int)) (.leaf .ret [(.ifc 105 (.ptr 2 0))] (SS.mk [(.cells (fD s off) 3 64 0 0),(.cells (fC x k) 6 88 0 0),(.cells [(.str (ByteArray.mk #[67,111,109,112,111,110,101,110,116,32,105,115,32,109,105,115,115,105,110,103,32,105,116,115,32,112,114,111,116,111,99,111,108,39,115,32,86,67,111,100,101,32,102,105,101,108,100]) true)] 1 107 0 0)] [] true w bs)) (.split (decide ((↑s.size:Int)<(↑x.n:Int))) (.leaf .ret [(.ifc 105 (.ptr 2 0))] (SS.mk [(.cells (fD s off) 3 64 0 0),(.cells (fC x k) 6 88 0 0),(.cells [(.str Aw true)] 1 107 0 0)] [] true w bs)) (.need ((0:Int)<=(↑x.n:Int)/\(↑x.n:Int)<=(↑s.size:Int)) (.choose (.appendCap ((s.extract 0 (↑x.n:Int).toNat).size) 0 5) fun c0=>(.need (x.A=x.A/\x.n=x.n/\x.c=x.c) (.need (0=0) (.need (0+(s.extract 0 (↑x.n:Int).toNat).size<=(List.map (fun b=>(↑b.toNat:Int)) (#[].extract 0 0++s.data.extract 0 (0+((↑x.n:Int).toNat-0))++#[].extract (0+min ((↑x.n:Int).toNat-0) (s.data.size-0)) 0).toList++List.replicate (c0-(s.extract 0 (↑x.n:Int).toNat).size) (0:Int)).length) (.need (canBytes w bs x.A x.n) (.split (!(bytesOf (List.take (s.extract 0 (↑x.n:Int).toNat).size (List.drop 0 (List.map (fun b=>(↑b.toNat:Int)) (#[].extract 0 0++s.data.extract 0 (0+((↑x.n:Int).toNat-0))++#[].extract (0+min ((↑x.n:Int).toNat-0) (s.data.size-0)) 0).toList++List.replicate (c0-(s.extract 0 (↑x.n:Int).toNat).size) (0:Int))))).toList == (bytesAt w x.A x.n).toList) (.leaf .ret [(.ifc 105 (.ptr 3 0))] (SS.mk [(.cells (fD s off) 3 64 0 0),(.cells (fC x k) 6 88 0 0),(l6 s x c0),(.cells [(.str (ByteArray.mk #[99,111,109,112,111,110,101,110,116,39,115,32,86,67,111,100,101,32,102,105,101,108,100,32,105,115,32,105,110,118,97,108,105,100,58,32,33,61]) true)] 1 107 0 0)] [] true w bs)) (.need ((0:Int)<=(↑x.n:Int)/\(↑x.n:Int)<=(↑s.size:Int)) (.choose (.appendCap ((s.extract (↑x.n:Int).toNat s.size).size) 0 5) fun c1=>(.hc 96 [(.slc 3 0 ((s.extract (↑x.n:Int).toNat s.size).size) c1 false false)] (SS.mk [(.cells (fD s off) 3 64 0 0),(.cells (fC x k) 6 88 0 0),(l6 s x c0),(oD s x c1)] [] true w bs) (ux) fun x2 w2 b2=>(.need (oC off s) (.split ((↑x2.size:Int) != (↑(s.extract (↑off:Int).toNat s.size).size:Int)) (.leaf .ret [(.ifc 105 (.ptr 4 0))] (SS.mk [(.cells (fD s off) 3 64 0 0),(.cells (fC x k) 6 88 0 0),(l6 s x c0),(oD s x c1),(.cells [(.str (ByteArray.mk #[99,111,109,112,111,110,101,110,116,32,118,97,108,117,101,32,115,105,122,101,32,109,105,115,109,97,116,99,104,58,32,33,61]) true)] 1 107 0 0)] [] true w2 b2)) (.split (i64.wrap (i64.wrap ((↑x.n:Int)+(↑x2.n:Int))+(↑x2.size:Int)) != (↑s.size:Int)) (.leaf .ret [(.ifc 105 (.ptr 4 0))] (SS.mk [(.cells (fD s off) 3 64 0 0),(.cells (fC x k) 6 88 0 0),(l6 s x c0),(oD s x c1),(.cells [(.str Aw true)] 1 107 0 0)] [] true w2 b2)) (.need (oC off s) (.choose (.appendCap ((s.extract (↑off:Int).toNat s.size).size) 0 5) fun c3=>(.need (Fn.func 172=Fn.func 172) (.need (Fn.func 173=Fn.func 173) (.need (Fn.func 174=Fn.func 174) (.need (0=0) (.hc 173 [(sq s off c3 4)] (SS.mk [(.cells (fD s off) 3 64 0 0),(.cells (fC x k) 6 88 0 0),(l6 s x c0),(oD s x c1),(oB s off c3),(.cells lZ 3 147 0 0)] [] true w2 b2) (c9) fun x4 w4 b4=>(.need (oC off s) (.choose (.appendCap ((s.extract (↑off:Int).toNat s.size).size) 0 5) fun c5=>(.need (Fn.func 172=Fn.func 172) (.need (Fn.func 173=Fn.func 173) (.need (Fn.func 174=Fn.func 174) (.need (0=0) (.hc 391 [(.agg lZ),(sq s off c5 6)] (SS.mk (vK s off x k c0 c1 c3 c5) [] true w4 b4) (cA) fun x6 w6 b6=>(.leaf .ret [(.one .nilIface rfl)] (SS.mk (vK s off x k c0 c1 c3 c5) [] true w6 b6)))))))))))))))))))))))))))))))):=by kernel_rfl
theorem vZ(s:ByteArray)(off:Nat)(x:PV)(k:Int)(w:World)(bs:List Nat):(by have h:=Pv s off x k w bs;unfold vK l6 oD Aw oC sq fD fC lZ oB at h;exact type_of% h):=Pv s off x k w bs
noncomputable abbrev vJ(s:ByteArray)(off:Nat)(x:PV)(k:Int)(c0:Nat):List SObj:=[(.cells (fD s off) 3 64 0 0),(.cells (fC x k) 6 88 0 0),(oB s off c0),(.cells lZ 3 147 0 0)]
theorem OY(s:ByteArray)(off:Nat)(x:PV)(k:Int)(w:World)(bs:List Nat):al Tryz.prog ju 3000 72 [.ptr 0 0] (SS.mk (vO s off x k (-1) yP) [] true w bs) =
(.need (oC off s) (.choose (.appendCap ((s.extract (↑off:Int).toNat s.size).size) 0 5) fun c0=>(.need (Fn.func 172=Fn.func 172) (.need (Fn.func 173=Fn.func 173) (.need (Fn.func 174=Fn.func 174) (.need (0=0) (.hc 173 [(sq s off c0 2)] (SS.mk (vJ s off x k c0) [] true w bs) (c9) fun x1 w1 b1=>(.leaf .ret [(.tup [(.str x1 false),(.one .nilIface rfl)])] (SS.mk (vJ s off x k c0) [] true w1 b1))))))))):=by kernel_rfl
theorem eZ(s:ByteArray)(off:Nat)(x:PV)(k:Int)(w:World)(bs:List Nat):(by have h:=OY s off x k w bs;unfold vJ oC sq fD fC lZ oB at h;exact type_of% h):=OY s off x k w bs
end
section
open Go Go.Rx Go.RowKit
theorem JX{β:Nat->Nat}{w:World}(x:PV)(kn:Nat)(l:List UInt8)(hn:Nm l)(hl:l.length<=2147483647)(hx:x.n=(uv kn).length)(hk:(uv kn).length<20)(hat:aH β (vO ⟨(uv kn++(uv l.length++l)).toArray⟩ ((uv kn).length+(uv l.length).length) x kn (-1) yP) w)(hlt:∀i,i<2->β i<w.heap.size)(hinj:∀i j,i<2->j<2->β i=β j->i=j)(hv:Bts w w.heap.size x.A x.n (uv kn))(hvn:∀ad,x.A=some ad->ad.block ∉ ac β 2)(ht:Tens w) :
  Calls Tryz.prog 91 #[.pointer (some ⟨β 0,0,none⟩)] w fun e w'=>e=.returned .nilIface/\Below w.heap.size w w':=by
 obtain⟨nm,A0,n0,cc,sz,pth,tr⟩:=x
 dsimp only at hx hv hvn
 subst hx
 obtain⟨o1,o2,o3⟩:=dS ⟨(uv kn++(uv l.length++l)).toArray⟩ ((uv kn).length+(uv l.length).length) ⟨nm,A0,(uv kn).length,cc,sz,pth,tr⟩ kn (-1) yP (by simp[yP,SV.ok,be])
 have hst:=St.head (P:=Tryz.prog) (Q:=bH fun v w'=>v=.nilIface/\Below w.heap.size w w') o1 hlt hinj hat o2
 refine(fV (hk:=ju) (n:=3000) (args:=[.ptr 0 0]) (Q:=fun v w'=>v=.nilIface/\Below w.heap.size w w') hst ⟨by simp[SV.ok,SS.n],trivial⟩ ?_).mono ?_
 rotate_left
 ·rintro e w' ⟨v,rfl,rfl,h2⟩
  exact⟨rfl,h2⟩
 have hp:=fv kn
 have hu:=iP 9 l.length (Nat.lt_of_le_of_lt hl (by decide))
 have hL:(uv kn++(uv l.length++l)).length=(uv kn).length+((uv l.length).length+l.length):=by simp
 refine ah (vZ _ _ _ kn w (ac β 2)) ?_
 have m1:min (uv kn).length ((uv kn).length+((uv l.length).length+l.length))=(uv kn).length:=by omega
 have t2:List.take ((uv kn).length+((uv l.length).length+l.length)) (uv kn++(uv l.length++l))=uv kn++(uv l.length++l):=List.take_of_length_le (by simp)
 have t6:List.take ((uv kn).length+(uv l.length).length+l.length) (uv kn++(uv l.length++l))=uv kn++(uv l.length++l):=List.take_of_length_le (by simp;omega)
 have d2:List.drop ((uv kn).length+(uv l.length).length) (uv kn++(uv l.length++l))=l:=by rw[<- List.drop_drop,List.drop_left,List.drop_left]
 have t3:(uv kn).length+((uv l.length).length+l.length)-((uv kn).length+(uv l.length).length)=l.length:=by omega
 have t4:(uv kn).length+(uv l.length).length+((uv kn).length+((uv l.length).length+l.length)-((uv kn).length+(uv l.length).length))=(uv kn).length+((uv l.length).length+l.length):=by omega
 have t5:((((uv kn).length+(uv l.length).length:Nat)):Int).toNat=(uv kn).length+(uv l.length).length:=rfl
 simp only[jo,jp,aC,hL,Int.toNat_natCast,t5,m1,t4,t3,t2,t6,d2,Nat.sub_zero,Nat.zero_add,List.drop_zero,List.take_left,List.drop_left,Nat.min_self,Nat.add_sub_cancel_left,Nat.add_sub_cancel' (Nat.le_add_right _ _)]
 have below:∀ {Γ:Ctx}{β':Nat->Nat}{s:SS}{w':World},Γ={ P:=Tryz.prog,β0:=β,n0:=2,Q:=bH fun v w'=>v=.nilIface/\Below w.heap.size w w' }->St Γ β' s w'->s.objs.take 2=vO ⟨(uv kn++(uv l.length++l)).toArray⟩ ((uv kn).length+(uv l.length).length) ⟨nm,A0,(uv kn).length,cc,sz,pth,tr⟩ kn (-1) yP->Keep (ac β 2) w w'->Below w.heap.size w w':=by
  rintro Γ β' s w' rfl hs ho hk
  exact bp hk hat (hs.objsAt ho o2) o1 o3
 refine ak (fun h=>by omega) (fun _=>ae (fun h=>by have:=eq_of_beq h;omega) (fun _=>ak (fun h=>by omega) (fun _=>aa (by omega) (aD ?_))))
 rintro c0 ⟨_,hc0⟩
 refine aa (by simp) (aa trivial (aa (by simp) (aa (hv.canBytesN (Nat.le_refl _) hvn) (ae (fun h=>?_) (fun _=>?_)))))
 ·rw[hv.bytesAt,iB]at h
  simp at h
 refine aa (by omega) (aD ?_)
 rintro c1 ⟨_,hc1⟩
 refine cj (w:=w) (bs:=ac β 2) (R:=fun(z:RV) _ _=>z=⟨l.length,(uv l.length).length⟩) ⟨rfl,Keep.refl _ _,fun b hb=>.inl hb⟩ (fun x=>⟨rfl,trivial,trivial,trivial,trivial⟩) (fun β' wc hs o hk=>?_) ?_
 ·have h3:=br (n:=(uv l.length).length+l.length) (hs.at_ 3 _ rfl) (by simp) (hs.lt 3 (by simp[SS.n]))
  refine(f6 _ _ _ l.length l _ wc h3 (Nat.le_refl _) hl).mono ?_
  rintro e w' ⟨v,rfl,rfl,hb'⟩
  exact⟨⟨_,_⟩,rfl,hb',rfl⟩
 rintro x2 wc2 w2' b2 hk2 rfl hb2 hkw2 hbs2
 refine aa (by omega) (ae (fun h=>by simp at h) (fun _=>ae (fun h=>?_) (fun _=>aa (by omega) (aD ?_))))
 ·dsimp only at h
  rw[show i64.wrap (((uv kn).length:Int)+((uv l.length).length:Int))=(((uv kn).length+(uv l.length).length:Nat):Int) by rw[aq (by omega) (by omega)];omega,aq (by omega) (by omega)]at h
  have:=bne_iff_ne.1 h
  omega
 rintro c3 ⟨_,hc3⟩
 refine aa trivial (aa trivial (aa trivial (aa trivial ?_)))
 refine cj (w:=w) (bs:=ac β 2) (R:=fun(_:ByteArray) _ _=>True) ⟨rfl,hkw2,hbs2⟩ (fun x=>⟨rfl,trivial,trivial,trivial⟩) (fun β' wc hs o hk=>?_) ?_
 ·have h4:=br (n:=l.length) (hs.at_ 4 _ rfl) rfl (hs.lt 4 (by simp[SS.n]))
  refine(BZ _ _ _ l _ wc h4 (Nat.le_refl _) hn).mono ?_
  rintro e w' ⟨v,rfl,rfl,hb'⟩
  exact⟨_,rfl,hb',trivial⟩
 rintro x4 wc4 w4 b4 hk4 _ hb4 hkw4 hbs4
 refine aa (by omega) (aD ?_)
 rintro c5 ⟨_,hc5⟩
 refine aa trivial (aa trivial (aa trivial (aa trivial ?_)))
 refine cj (w:=w) (bs:=ac β 2) (R:=fun(_:Unit) _ _=>True) ⟨rfl,hkw4,hbs4⟩ (fun x=>⟨rfl,trivial⟩) (fun β' wc hs o hk=>?_) ?_
 ·have h6:=br (n:=l.length) (hs.at_ 6 _ rfl) rfl (hs.lt 6 (by simp[SS.n]))
  refine(jS (.func 172) (.func 173) _ wc fun w1 hw1=>(B1 _ _ _ _ l _ w1 (h6.below hw1 (Nat.le_refl _)) hw1.size hn).mono (by rintro e w' ⟨v,rfl,rfl,hb'⟩;exact⟨rfl,hb'⟩)).mono ?_
  rintro e w' ⟨rfl,hb'⟩
  exact⟨(),rfl,hb',trivial⟩
 rintro x6 wc6 w6 b6 hk6 _ hb6 hkw6 hbs6
 exact aJ (w:=w) (bs:=ac β 2) ⟨rfl,hkw6,hbs6⟩ fun β' w' hs hk=>⟨_,rfl,rfl,below rfl hs rfl hk⟩
end
end Go.Proofs.YtnklanajebphpaaGreatDoor
