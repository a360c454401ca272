/- The tie. -/
import Derived.Test.YtnklanajebphpaaGreatDoorRows
import Derived.LaidByTextLater
import Derived.SevenTiedAt
set_option maxRecDepth 100000
set_option maxHeartbeats 4000000
set_option linter.unusedVariables false
set_option linter.unusedSimpArgs false
namespace Go.Proofs.YtnklanajebphpaaGreatDoor
open IntKind
section
open Go
def mJ:List (String×DataW Unit):=[("internal/strconv.uint64pow10",Rows.laid_internal_strconv_uint64pow10),("math/bits.deBruijn32tab",Rows.laid_math_bits_deBruijn32tab),("math/bits.deBruijn64tab",Rows.laid_math_bits_deBruijn64tab),("strconv.ErrSyntax",Rows.laid_strconv_ErrSyntax),("strconv.ErrRange",Rows.laid_strconv_ErrRange),("pub-brocade/pub/gomultibase.ErrUnsupportedEncoding",Rows.laid_pub_brocade_pub_gomultibase_ErrUnsupportedEncoding),("unicode/utf8.acceptRanges",Rows.laid_unicode_utf8_acceptRanges),("encoding/hex.ErrLength",Rows.laid_encoding_hex_ErrLength),("pub-brocade/pub/gomultibase.base256emojiTable",Rows.laid_pub_brocade_pub_gomultibase_base256emojiTable),("pub-brocade/pub/gomultihash.ErrTooShort",Rows.laid_pub_brocade_pub_gomultihash_ErrTooShort),("pub-brocade/pub/gomultihash.ErrVarintBufferShort",Rows.laid_pub_brocade_pub_gomultihash_ErrVarintBufferShort),("pub-brocade/pub/gomultihash.ErrVarintTooLong",Rows.laid_pub_brocade_pub_gomultihash_ErrVarintTooLong),("pub-brocade/pub/govarint.ErrOverflow",Rows.laid_pub_brocade_pub_govarint_ErrOverflow),("pub-brocade/pub/govarint.ErrNotMinimal",Rows.laid_pub_brocade_pub_govarint_ErrNotMinimal),("pub-brocade/pub/govarint.ErrUnderflow",Rows.laid_pub_brocade_pub_govarint_ErrUnderflow),("pub-brocade/pub/gomultibase.hexTableUppers",Rows.laid_pub_brocade_pub_gomultibase_hexTableUppers),("net/url.table",Rows.laid_net_url_table),("pub-brocade/pub/gomultihash.ErrInvalidMultihash",Rows.laid_pub_brocade_pub_gomultihash_ErrInvalidMultihash),("pub-brocade/pub/gocid.errCidTooShort",Rows.laid_pub_brocade_pub_gocid_errCidTooShort),("bytes.ErrTooLarge",Rows.laid_bytes_ErrTooLarge),("pub-brocade/pub/multiaddr.errNilPtr",Rows.laid_pub_brocade_pub_multiaddr_errNilPtr)]
def MA:List LaidKind:=[.data,.data,.data,.sentinel,.sentinel,.sentinel,.data,.sentinel,.data,.sentinel,.sentinel,.sentinel,.sentinel,.sentinel,.sentinel,.data,.data,.sentinel,.sentinel,.sentinel,.sentinel]
theorem k1:Tryz.prog.worded (varsWordLater true)=true:=by kernel_rfl
theorem k2:Tryz.prog.worded (varsWordLater !true)=false:=by kernel_rfl
theorem k3:Tryz.prog.worded rootWordLater=true:=by kernel_rfl
theorem k4:mJ.map (fun x=>Tryz.prog.kindOfLater x.1)=MA.map some:=by kernel_rfl
theorem k5:(Tryz.prog.funcNamed "gosem.cut.vars").isSome=true:=by kernel_rfl
theorem k6:varsNamedLaterB Tryz.prog (varsId Tryz.prog) mJ=true:=by kernel_rfl
theorem Ql:(mJ.all fun x=>x.2.handleName?.isNone)=true:=by kernel_rfl
theorem CK:Tryz.pinned.checked.prog.pinnedFits "unicode/utf8.first" = true:=by kernel_rfl
theorem Lq:Tryz.pinned.checked.prog.headLifts.contains "ownunsafe" = false:=by kernel_rfl
theorem Kr:Tryz.pinned.checked.prog.listedFits [("internal/strconv.uint64pow10",Rows.laid_internal_strconv_uint64pow10),("math/bits.deBruijn32tab",Rows.laid_math_bits_deBruijn32tab),("math/bits.deBruijn64tab",Rows.laid_math_bits_deBruijn64tab),("strconv.ErrSyntax",Rows.laid_strconv_ErrSyntax),("strconv.ErrRange",Rows.laid_strconv_ErrRange),("pub-brocade/pub/gomultibase.ErrUnsupportedEncoding",Rows.laid_pub_brocade_pub_gomultibase_ErrUnsupportedEncoding),("unicode/utf8.first",Rows.laid_unicode_utf8_first),("unicode/utf8.acceptRanges",Rows.laid_unicode_utf8_acceptRanges),("encoding/hex.ErrLength",Rows.laid_encoding_hex_ErrLength),("pub-brocade/pub/gomultibase.base256emojiTable",Rows.laid_pub_brocade_pub_gomultibase_base256emojiTable),("pub-brocade/pub/gomultihash.ErrTooShort",Rows.laid_pub_brocade_pub_gomultihash_ErrTooShort),("pub-brocade/pub/gomultihash.ErrVarintBufferShort",Rows.laid_pub_brocade_pub_gomultihash_ErrVarintBufferShort),("pub-brocade/pub/gomultihash.ErrVarintTooLong",Rows.laid_pub_brocade_pub_gomultihash_ErrVarintTooLong),("pub-brocade/pub/govarint.ErrOverflow",Rows.laid_pub_brocade_pub_govarint_ErrOverflow),("pub-brocade/pub/govarint.ErrNotMinimal",Rows.laid_pub_brocade_pub_govarint_ErrNotMinimal),("pub-brocade/pub/govarint.ErrUnderflow",Rows.laid_pub_brocade_pub_govarint_ErrUnderflow),("pub-brocade/pub/gomultibase.hexTableUppers",Rows.laid_pub_brocade_pub_gomultibase_hexTableUppers),("net/url.table",Rows.laid_net_url_table),("pub-brocade/pub/gomultihash.ErrInvalidMultihash",Rows.laid_pub_brocade_pub_gomultihash_ErrInvalidMultihash),("pub-brocade/pub/gocid.errCidTooShort",Rows.laid_pub_brocade_pub_gocid_errCidTooShort),("bytes.ErrTooLarge",Rows.laid_bytes_ErrTooLarge),("pub-brocade/pub/multiaddr.errNilPtr",Rows.laid_pub_brocade_pub_multiaddr_errNilPtr)]=true:=by
 unfold Program.listedFits
 rw[Lq]
 kernel_rfl
end
section
open Go
theorem PF:∀os tape,varsDone Tryz.prog 400 (varsId Tryz.prog) os tape=true:=fun _ _=>by kernel_rfl
end
section
open Go
theorem PG:∀os tape,(DataW.laidRun Tryz.prog (varsWorld Tryz.prog 400 (varsId Tryz.prog) os tape).memory 8 (mJ.map (·.1))).map (·.1)=some mJ:=fun _ _=>by kernel_rfl
end
section
open Go
def nC:Nat->Nat->List Nat->List MemPlace->Bool
 |_,_,_,[]=>true
 |b,o,seen,.cell b' o' :: r=>if Nat.beq b' b then Nat.beq o' o && nC b (o+1) seen r else !(seen.any (Nat.beq b')) && nC b' (o'+1) (b :: seen) r
 |_,_,_,.map _ :: _=>false
theorem jN:∀(l:List MemPlace) (b o:Nat) (seen:List Nat),nC b o seen l=true ->
  (∀p∈l,∃b' o',p=.cell b' o'/\((b'=b/\o<=o')∨(b'≠b/\b' ∉ seen)))/\l.Nodup
 |[],_,_,_,_=>⟨by simp,List.nodup_nil⟩
 | .map _ :: _,_,_,_,h=>by simp[nC]at h
 | .cell b' o' :: r,b,o,seen,h=>by
  unfold nC at h
  by_cases hb:b'=b
  ·subst hb
   rw[if_pos (by simp)]at h
   rw[Bool.and_eq_true]at h
   have ho:o'=o:=Nat.eq_of_beq_eq_true h.1
   subst ho
   obtain⟨h1,h2⟩:=jN r _ _ _ h.2
   refine⟨fun p hp=>?_,List.nodup_cons.2 ⟨fun hm=>?_,h2⟩⟩
   ·rcases List.mem_cons.1 hp with rfl |hp
    ·exact⟨_,_,rfl,.inl ⟨rfl,Nat.le_refl _⟩⟩
    ·obtain⟨b2,o2,rfl,h3 |h3⟩:=h1 p hp
     ·exact⟨_,_,rfl,.inl ⟨h3.1,by omega⟩⟩
     ·exact⟨_,_,rfl,.inr h3⟩
   ·obtain⟨b2,o2,he,h3 |h3⟩:=h1 _ hm
    ·injection he with e1 e2;omega
    ·injection he with e1 e2;exact h3.1 e1.symm
  ·rw[if_neg (by simpa using hb)]at h
   rw[Bool.and_eq_true]at h
   have hs:b' ∉ seen:=by
    intro hm
    have h1:=h.1
    simp only[Bool.not_eq_true',List.any_eq_false]at h1
    exact h1 b' hm (by simp)
   obtain⟨h1,h2⟩:=jN r _ _ _ h.2
   refine⟨fun p hp=>?_,List.nodup_cons.2 ⟨fun hm=>?_,h2⟩⟩
   ·rcases List.mem_cons.1 hp with rfl |hp
    ·exact⟨_,_,rfl,.inr ⟨hb,hs⟩⟩
    ·obtain⟨b2,o2,rfl,h3 |h3⟩:=h1 p hp
     ·rw[h3.1];exact⟨_,_,rfl,.inr ⟨hb,hs⟩⟩
     ·simp only[List.mem_cons,not_or]at h3
      exact⟨_,_,rfl,.inr h3.2⟩
   ·obtain⟨b2,o2,he,h3 |h3⟩:=h1 _ hm
    ·injection he with e1 e2;omega
    ·injection he with e1 e2;exact h3.1 e1.symm
def kt(b:Nat):List MemPlace->Bool
 |[]=>true
 | .cell b' _ :: r=>!(Nat.beq b' b) && kt b r
 | .map _ :: r=>kt b r
theorem iH{b:Nat}:∀ {l:List MemPlace},kt b l=true->∀o,MemPlace.cell b o ∉ l
 |[],_,_,hm=>by cases hm
 | .cell b' o' :: r,h,o,hm=>by
  simp only[kt,Bool.and_eq_true,Bool.not_eq_true']at h
  rcases List.mem_cons.1 hm with he |hm
  ·injection he with e1 e2
   subst e1
   have:=h.1
   simp at this
  ·exact iH h.2 o hm
 | .map _ :: r,h,o,hm=>by
  simp only[kt]at h
  rcases List.mem_cons.1 hm with he |hm
  ·cases he
  ·exact iH h o hm
theorem PH:∀os tape,(DataW.laidRun Tryz.prog (varsWorld Tryz.prog 400 (varsId Tryz.prog) os tape).memory 8 (mJ.map (·.1))).map (fun x=>nC 100000 0 [] x.2 && kt 100000 x.2)=some true:=fun _ _=>by kernel_rfl
end
section
open Go
def qD(P:Program)(w:World)(c:Array Value)(o:Nat):Bool:=
 match c[o]? with
 |some (.iface u v)=>Value.okWideB P w u v
 |_=>true
def fm(P:Program)(w:World):Nat->Array Value->List MemPlace->Bool
 |_,_,[]=>true
 |b,c,.cell b' o :: r=>if Nat.beq b' b then qD P w c o && fm P w b c r else
   match w.heap[b']? with
   |some (.cells c' _ (0,0))=>qD P w c' o && fm P w b' c' r
   |_=>false
 |b,c,.map _ :: r=>fm P w b c r
theorem kP{P:Program}{w:World}{b o:Nat}{c:Array Value}{e:TypeId}(h:w.heap[b]?=some (.cells c e (0,0)))(hf:qD P w c o=true) :
  ((match w.heap[b]? with |some (.cells _ _ (0,0))=>true |_=>false) && (match w.cell? ⟨b,o,none⟩ with |some (.iface u v)=>Value.okWideB P w u v |_=>true))=true:=by
 rw[h]
 simp only[Bool.true_and]
 have:w.cell? ⟨b,o,none⟩=c[o]?:=by simp[World.cell?,h]
 rw[this]
 exact hf
theorem dv{P:Program}{w:World}:∀(l:List MemPlace) (b:Nat) (c:Array Value),(∃e,w.heap[b]?=some (.cells c e (0,0)))∨(∀o,MemPlace.cell b o ∉ l)->fm P w b c l=true->laidRowsB P w l=true
 |[],_,_,_,_=>rfl
 | .map _ :: r,b,c,hc,h=>by
  unfold fm at h
  have:=dv r b c (hc.imp id fun hn o hm=>hn o (List.mem_cons_of_mem _ hm)) h
  unfold laidRowsB at *
  simpa using this
 | .cell b' o :: r,b,c,hc,h=>by
  unfold fm at h
  by_cases hb:b'=b
  ·subst hb
   rw[if_pos (by simp),Bool.and_eq_true]at h
   rcases hc with⟨e,hc⟩ |hn
   ·have h2:=dv r b' c (.inl ⟨e,hc⟩) h.2
    have h1:=kP hc h.1
    unfold laidRowsB at *
    rw[List.all_cons,Bool.and_eq_true]
    exact⟨h1,h2⟩
   ·exact absurd (List.mem_cons_self ..) (hn o)
  ·rw[if_neg (by simpa using hb)]at h
   split at h
   ·rename_i c' e hc'
    rw[Bool.and_eq_true]at h
    have h2:=dv r b' c' (.inl ⟨e,hc'⟩) h.2
    have h1:=kP hc' h.1
    unfold laidRowsB at *
    rw[List.all_cons,Bool.and_eq_true]
    exact⟨h1,h2⟩
   ·cases h
theorem jJ{P:Program}{w:World}{fuel:Nat}:∀ {a b:List String}{x:List (String×DataW Unit)×List MemPlace},DataW.laidRun P w fuel (a++b)=some x ->
  ∃xa xb,DataW.laidRun P w fuel a=some xa/\DataW.laidRun P w fuel b=some xb/\x.2=xa.2++xb.2
 |[],b,x,h=>⟨([],[]),x,rfl,h,rfl⟩
 |n :: a,b,x,h=>by
  simp only[List.cons_append,DataW.laidRun]at h ⊢
  split at h
  ·rename_i g hg
   split at h
   ·rename_i t cs ht hc
    split at h
    ·rename_i x1 y h1 h2
     obtain⟨xa,xb,e1,e2,e3⟩:=jJ h2
     cases h
     refine⟨_,xb,by rw[h1,e1],e2,?_⟩
     simp[e3]
    ·cases h
   ·cases h
  ·cases h
end
section
open Go
theorem PI:∀os tape,(DataW.laidRun Tryz.prog (varsWorld Tryz.prog 400 (varsId Tryz.prog) os tape).memory 8 ((mJ.take 9).map (·.1))).map (fun x=>fm Tryz.prog (varsWorld Tryz.prog 400 (varsId Tryz.prog) os tape).memory 100000 #[] x.2)=some true:=fun _ _=>by kernel_rfl
end
section
open Go
theorem PJ:∀os tape,(DataW.laidRun Tryz.prog (varsWorld Tryz.prog 400 (varsId Tryz.prog) os tape).memory 8 ((mJ.drop 9).map (·.1))).map (fun x=>fm Tryz.prog (varsWorld Tryz.prog 400 (varsId Tryz.prog) os tape).memory 100000 #[] x.2)=some true:=fun _ _=>by kernel_rfl
end
section
open Go
theorem Js(os:Os)(tape:Tape):(DataW.laidRun Tryz.prog (varsWorld Tryz.prog 400 (varsId Tryz.prog) os tape).memory 8 (mJ.map (·.1))).map (fun x=>decide x.2.Nodup && laidRowsB Tryz.prog (varsWorld Tryz.prog 400 (varsId Tryz.prog) os tape).memory x.2)=some true:=by
 have h1:=PH os tape
 have h2:=PI os tape
 have h3:=PJ os tape
 cases h:(DataW.laidRun Tryz.prog (varsWorld Tryz.prog 400 (varsId Tryz.prog) os tape).memory 8 (mJ.map (·.1))) with
 |none=>rw[h]at h1;cases h1
 |some x=>
  have h':=h
  rw[show mJ.map (·.1)=(mJ.take 9).map (·.1)++(mJ.drop 9).map (·.1) by rw[<- List.map_append,List.take_append_drop]]at h'
  obtain⟨xa,xb,e1,e2,e3⟩:=jJ h'
  rw[h]at h1
  rw[e1]at h2
  rw[e2]at h3
  simp only[Option.map_some,Option.some.injEq]at h1 h2 h3 ⊢
  rw[Bool.and_eq_true]at h1
  have n1:=(jN x.2 _ _ _ h1.1).2
  have nb:=iH h1.2
  rw[e3]at nb
  have n2:=dv xa.2 100000 #[] (.inr fun o hm=>nb o (List.mem_append_left _ hm)) h2
  have n3:=dv xb.2 100000 #[] (.inr fun o hm=>nb o (List.mem_append_right _ hm)) h3
  have n4:laidRowsB Tryz.prog (varsWorld Tryz.prog 400 (varsId Tryz.prog) os tape).memory x.2=true:=by
   rw[e3]
   unfold laidRowsB at *
   rw[List.all_append,n2,n3]
   rfl
  rw[n4,decide_eq_true n1]
  rfl
theorem Rq:Tryz.prog.laidByTextLater mJ MA true:=Program.laidByTextLater_by_run 400 8 k1 k2 k3 k4 k5 k6 PF PG Js Ql
theorem jq:Rows.fnMaComponentRow.laidByTextAt .later Tryz.pinned [.data,.data,.data,.sentinel,.sentinel,.sentinel,.pinned,.data,.sentinel,.data,.sentinel,.sentinel,.sentinel,.sentinel,.sentinel,.sentinel,.data,.data,.sentinel,.sentinel,.sentinel,.sentinel] true:=
 OpenClaim.laidByTextAt_pinned rfl rfl Rq rfl rfl rfl rfl (fun y hy _e=>by
  simp only[Rows.fnMaComponentRow,List.zip_cons_cons,List.zip_nil_right,List.mem_cons,List.mem_nil_iff,or_false]at hy
  rcases hy with rfl |rfl |rfl |rfl |rfl |rfl |rfl |rfl |rfl |rfl |rfl |rfl |rfl |rfl |rfl |rfl |rfl |rfl |rfl |rfl |rfl |rfl
  ·cases _e
  ·cases _e
  ·cases _e
  ·cases _e
  ·cases _e
  ·cases _e
  ·exact⟨CK,by kernel_rfl⟩
  ·cases _e
  ·cases _e
  ·cases _e
  ·cases _e
  ·cases _e
  ·cases _e
  ·cases _e
  ·cases _e
  ·cases _e
  ·cases _e
  ·cases _e
  ·cases _e
  ·cases _e
  ·cases _e
  ·cases _e) Kr
end
end Go.Proofs.YtnklanajebphpaaGreatDoor
