/- Joined texts: W3 L3 E1 E2 E3 E4 Ta Tb Tc Td Te Tf Tg Th Fin3. -/
import Derived.Test.YtnklanajebphpaaGreatDoorCards
import Derived.OpenVars
import Derived.OpenShut
import Derived.LaidMore
import Derived.Lay
import Derived.Test.YtnklanajebphpaaGreatDoorJ13
import Derived.Test.YtnklanajebphpaaGreatDoorJ6
import Derived.Lib.LaidTab
import Derived.Stop.LaidErr
import Derived.JoinedOf
import Derived.Test.YtnklanajebphpaaGreatDoorRows
import Derived.LaidByTextLater
import Derived.SevenTiedAt
import Derived.Test.YtnklanajebphpaaGreatDoorJ12
set_option maxRecDepth 100000
set_option maxHeartbeats 4000000
set_option linter.unusedVariables false
set_option linter.unusedSimpArgs false
namespace Go.Proofs.YtnklanajebphpaaGreatDoor
open IntKind
section
open Go Go.ChangeShapes Go.WideShapes Go.ChangeAt Go.RowKit
theorem M5:ownKnob Tryz.prog.godebug=none:=by kernel_rfl
theorem F7:laidOutB Tryz.prog=true:=by kernel_rfl
theorem I4:Tryz.prog.cellsOf 5=1:=by kernel_rfl
noncomputable def MF(os:Os):World:=(World.laidAll Tryz.prog os Rows.fnMaComponentRow.laid).forCall (fun _ _=>0) ⟨#[],#[.agg #[.int .i64 0,.slice none 0 0]],[]⟩
theorem E6(os:Os):(MF os).Shaped Tryz.checked.prog:=World.shaped_of_ZipB (by kernel_rfl) (by kernel_rfl)
theorem MG(os:Os):Input.okWideB Tryz.checked.prog (MF os) 4 ⟨#[],#[.agg #[.int .i64 0,.slice none 0 0]],[]⟩=true:=by kernel_rfl
theorem J1(os:Os)(H:Type)(enc:TypeId×Value->H):Rows.fnMaComponentSpec.preB enc Tryz.checked.prog Tryz.f4 [] false (MF os).memory #[.agg #[.int .i64 0,.slice none 0 0]] 8=true:=by kernel_rfl
theorem Gz(os:Os)(H:Type)(enc:TypeId×Value->H):Rows.fnMaComponentSpec.sizedB enc Tryz.checked.prog Tryz.f4 false (MF os).memory #[.agg #[.int .i64 0,.slice none 0 0]] 8=true:=by kernel_rfl
theorem Gy(os:Os):laidMetH Tryz.prog Rows.fnMaComponentRow.laid (MF os).memory:=by
 rw[MakeChecks.laidMetH_plain _ _ _ (by kernel_rfl)]
 exact laidMet_laidAll _ (by kernel_rfl) (by kernel_rfl)
end
section
open Go Go.ChangeShapes Go.WideShapes Go.ChangeAt Go.RowKit Go.Rx
theorem Kt:Tryz.prog.globalNamed "internal/strconv.uint64pow10" = some 14:=by kernel_rfl
theorem Kw:(Tryz.prog.globals[14]?).map (·.type)=some 280:=by kernel_rfl
theorem Kv:Tryz.prog.cellsOf 280=20:=by kernel_rfl
theorem Ku:(((begin Tryz.prog (fun _ _=>0) default).world.heap[14]?).bind Obj.row?).map (·.2)=some 280:=by kernel_rfl
theorem Kx:14<Tryz.prog.globals.size:=of_decide_eq_true (by kernel_rfl)
theorem FS:Tryz.prog.cellsOf 74=1:=by kernel_rfl
theorem xG{P:Program}{W:World}{n:String}{g:Nat}{cs:Array Value}{t:TypeId}(hg:P.globalNamed n=some g)(hv:W.var? P n=some cs)(hs:W.ShapedOpen P)(hlt:g<P.globals.size)
  (h0:(((begin P (fun _ _=>0) default).world.heap[g]?).bind Obj.row?).map (·.2)=some t):W.heap[g]?=some (.cells cs t (0,0)):=by
 obtain⟨⟨zero,t'⟩,hz,rfl⟩:=Option.map_eq_some_iff.1 h0
 obtain⟨cs',h1,_⟩:=hs.1 g zero t' hlt hz
 unfold World.var? at hv
 rw[hg,Option.bind_some,h1]at hv
 cases hv
 exact h1
theorem Gr{W:World}(hL:laidMetH Tryz.prog Rows.fnMaComponentRow.laid W)(hs:W.ShapedOpen Tryz.prog):Tens W:=by
 rw[MakeChecks.laidMetH_plain _ _ _ (by kernel_rfl)]at hL
 have hT:Lib.TabIs Tryz.prog W "internal/strconv.uint64pow10" .u64 tens:=Lib.tabIs_of_head Kt Kw Tryz.underlying280 Tryz.underlying74 FS Kv hL
 exact xG Kt hT hs Kx Ku
end
section
open Go
theorem j1:(Rows.fnMaComponentRow.wf (OpenSpec.ofChange Rows.fnMaComponentSpec))=true:=by kernel_rfl
theorem j2:(laidOutB Tryz.prog)=true:=by kernel_rfl
theorem j3:(mapsRowed Tryz.prog)=true:=by kernel_rfl
theorem j4:(Tryz.f4.params.all (Tryz.prog.readableRec ·))=true:=by kernel_rfl
theorem j5:(namedTie Tryz.prog Rows.fnMaComponentRow.named Rows.fnMaComponentSpec.vars)=true:=by kernel_rfl
theorem j6:((Rows.fnMaComponentRow.stops == []))=true:=by kernel_rfl
theorem j7:((Tryz.prog.stops == []))=true:=by kernel_rfl
theorem j8:((Rows.fnMaComponentRow.knobs == []))=true:=by kernel_rfl
theorem j9:((Tryz.prog.stopKnobs == []))=true:=by kernel_rfl
theorem PQ:((Rows.fnMaComponentRow.inPlace == Tryz.prog.inPlace 4))=true:=by kernel_rfl
theorem PR:((Rows.fnMaComponentRow.unfollowed == Tryz.prog.unfollowed 4))=true:=by kernel_rfl
theorem PT:((Rows.fnMaComponentRow.recurses == Tryz.prog.recurses 4))=true:=by kernel_rfl
theorem PW:((Rows.fnMaComponentRow.named == Tryz.prog.varsNamed 4))=true:=by kernel_rfl
theorem PY:((Rows.fnMaComponentRow.maps == (Tryz.f4.params.toList++Rows.fnMaComponentSpec.plain.varTypes Tryz.prog).any (Tryz.prog.mapsRec ·)))=true:=by kernel_rfl
theorem P0:((Rows.fnMaComponentRow.ifaces == (Tryz.f4.params.toList++Rows.fnMaComponentSpec.plain.varTypes Tryz.prog).any (Tryz.prog.ifacesRec ·)))=true:=by kernel_rfl
theorem P3:((Rows.fnMaComponentRow.mapsOut == Tryz.prog.mapsAmong Tryz.f4.resultTypes.toList))=true:=by kernel_rfl
end
section
open Go
theorem P4:((Rows.fnMaComponentRow.loops == (Tryz.f4.params.toList++Rows.fnMaComponentSpec.plain.varTypes Tryz.prog).any (Tryz.prog.loopsFrom ·)))=true:=by kernel_rfl
theorem P5:((Rows.fnMaComponentRow.wideKeys == (Tryz.f4.params.toList++Rows.fnMaComponentSpec.plain.varTypes Tryz.prog++Tryz.f4.resultTypes.toList).any (Tryz.prog.wideKeysFrom ·)))=true:=by kernel_rfl
theorem P7:(Rows.fnMaComponentSpec.vars.all (Tryz.prog.varReadable ·))=true:=by kernel_rfl
theorem P8:(Tryz.f4.resultTypes.all (fun t=>Tryz.prog.readableRec t && decide (t<Tryz.prog.types.size)))=true:=by kernel_rfl
theorem P9:((Rows.fnMaComponentRow.ifacesOut == Tryz.f4.resultTypes.toList.any (Tryz.prog.ifacesRec ·)))=true:=by kernel_rfl
theorem Qa:((Rows.fnMaComponentRow.loopsOut == Tryz.f4.resultTypes.toList.any (Tryz.prog.loopsFrom ·)))=true:=by kernel_rfl
theorem Qb:((Rows.fnMaComponentRow.plainKeys == Tryz.prog.plainKeys))=true:=by kernel_rfl
theorem Qc:(Rows.fnMaComponentRow.shortTexts.isNone)=true:=by kernel_rfl
theorem Qd:(Tryz.prog.stopsHeard)=true:=by kernel_rfl
theorem Qe:(Tryz.prog.mayEnter)=true:=by kernel_rfl
theorem Qf:((Rows.fnMaComponentRow.lifted == Tryz.prog.liftsFinal))=true:=by kernel_rfl
theorem Qg:((Tryz.prog.make == some Rows.fnMaComponentRow.make))=true:=by kernel_rfl
theorem Qh:((Rows.fnMaComponentRow.kinds == (if Rows.fnMaComponentRow.domain.isEmpty then[] else Tryz.f4.params.toList.map fun t=>match Tryz.prog.underlying t with |some (.int k)=>some k |_=>none)))=true:=by kernel_rfl
theorem Qi:((Rows.fnMaComponentRow.pinned == Rows.fnMaComponentRow.pinnedBy))=true:=by kernel_rfl
theorem Qj:((Rows.fnMaComponentRow.veiled == (Tryz.f4.params.toList++Rows.fnMaComponentSpec.plain.varTypes Tryz.prog++Tryz.f4.resultTypes.toList).any (Tryz.prog.veiledRec ·)))=true:=by kernel_rfl
theorem Qk:(Rows.fnMaComponentRow.veiledFits Tryz.prog Tryz.f4.params.toList (Tryz.f4.params.toList++Rows.fnMaComponentSpec.plain.varTypes Tryz.prog++Tryz.f4.resultTypes.toList))=true:=by kernel_rfl
end
section
open Go
theorem Ei:Tryz.prog.funcNamed "pub-brocade/laws.FnMaComponent" = some 4:=by kernel_rfl
theorem KU:Tryz.f4.isInstance Tryz.prog Rows.fnMaComponentRow.origin Rows.fnMaComponentRow.targs:=of_decide_eq_true (by kernel_rfl)
theorem MH:Tryz.f4.isWrapper Tryz.prog Rows.fnMaComponentRow.wrapper Rows.fnMaComponentRow.mainSum:=by
 unfold Func.isWrapper
 rw[if_neg (of_decide_eq_false (by kernel_rfl))]
 exact⟨rfl,rfl⟩
theorem J0:Rows.fnMaComponentRow.wfByText (OpenSpec.ofChange Rows.fnMaComponentSpec)=true:=by kernel_rfl
theorem Gd:Tryz.prog.mainIs=some (true,"63bde2e737bd9909744d5f094d0b10f2b1d1ffe7c451eb05203f24bd37ecaa63".toList):=by kernel_rfl
theorem JB:true=Tryz.prog.looks []:=by kernel_rfl
theorem Ky:false=Rows.fnMaComponentRow.goesBy Tryz.prog:=by kernel_rfl
theorem JZ:([31].all fun u=>!Tryz.prog.wantsStandIn u)=true:=by kernel_rfl
theorem Gi:Tryz.prog.inits.idxOf? 4=none:=by kernel_rfl
theorem zo:Tryz.prog.readableRec 31=true:=by kernel_rfl
theorem Gu:31<Tryz.prog.types.size:=of_decide_eq_true (by kernel_rfl)
end
section
open Go
theorem I5:joinedFacts Tryz.prog 4 Tryz.f4 Rows.fnMaComponentSpec Rows.fnMaComponentRow=true:=by
 unfold joinedFacts
 simp only[Bool.and_eq_true]
 exact⟨⟨⟨⟨⟨⟨⟨⟨⟨⟨⟨⟨⟨⟨⟨⟨⟨⟨⟨⟨⟨⟨⟨⟨⟨⟨⟨⟨⟨⟨⟨j1,j2⟩,j3⟩,j4⟩,j5⟩,j6⟩,j7⟩,j8⟩,j9⟩,PQ⟩,PR⟩,PT⟩,PW⟩,PY⟩,P0⟩,P3⟩,P4⟩,P5⟩,P7⟩,P8⟩,P9⟩,Qa⟩,Qb⟩,Qc⟩,Qd⟩,Qe⟩,Qf⟩,Qg⟩,Qh⟩,Qi⟩,Qj⟩,Qk⟩
end
section
open Go
def mJ:List (String×DataW Unit):=[("internal/strconv.uint64pow10",Rows.laid_internal_strconv_uint64pow10),("math/bits.deBruijn32tab",Rows.laid_math_bits_deBruijn32tab),("math/bits.deBruijn64tab",Rows.laid_math_bits_deBruijn64tab),("strconv.ErrSyntax",Rows.laid_strconv_ErrSyntax),("strconv.ErrRange",Rows.laid_strconv_ErrRange),("pub-brocade/pub/gomultibase.ErrUnsupportedEncoding",Rows.laid_pub_brocade_pub_gomultibase_ErrUnsupportedEncoding),("unicode/utf8.acceptRanges",Rows.laid_unicode_utf8_acceptRanges),("encoding/hex.ErrLength",Rows.laid_encoding_hex_ErrLength),("pub-brocade/pub/gomultibase.base256emojiTable",Rows.laid_pub_brocade_pub_gomultibase_base256emojiTable),("pub-brocade/pub/gomultihash.ErrTooShort",Rows.laid_pub_brocade_pub_gomultihash_ErrTooShort),("pub-brocade/pub/gomultihash.ErrVarintBufferShort",Rows.laid_pub_brocade_pub_gomultihash_ErrVarintBufferShort),("pub-brocade/pub/gomultihash.ErrVarintTooLong",Rows.laid_pub_brocade_pub_gomultihash_ErrVarintTooLong),("pub-brocade/pub/govarint.ErrOverflow",Rows.laid_pub_brocade_pub_govarint_ErrOverflow),("pub-brocade/pub/govarint.ErrNotMinimal",Rows.laid_pub_brocade_pub_govarint_ErrNotMinimal),("pub-brocade/pub/govarint.ErrUnderflow",Rows.laid_pub_brocade_pub_govarint_ErrUnderflow),("pub-brocade/pub/gomultibase.hexTableUppers",Rows.laid_pub_brocade_pub_gomultibase_hexTableUppers),("net/url.table",Rows.laid_net_url_table),("pub-brocade/pub/gomultihash.ErrInvalidMultihash",Rows.laid_pub_brocade_pub_gomultihash_ErrInvalidMultihash),("pub-brocade/pub/gocid.errCidTooShort",Rows.laid_pub_brocade_pub_gocid_errCidTooShort),("bytes.ErrTooLarge",Rows.laid_bytes_ErrTooLarge),("pub-brocade/pub/multiaddr.errNilPtr",Rows.laid_pub_brocade_pub_multiaddr_errNilPtr)]
def MA:List LaidKind:=[.data,.data,.data,.sentinel,.sentinel,.sentinel,.data,.sentinel,.data,.sentinel,.sentinel,.sentinel,.sentinel,.sentinel,.sentinel,.data,.data,.sentinel,.sentinel,.sentinel,.sentinel]
theorem k1:Tryz.prog.worded (varsWordLater true)=true:=by kernel_rfl
theorem k2:Tryz.prog.worded (varsWordLater !true)=false:=by kernel_rfl
theorem k3:Tryz.prog.worded rootWordLater=true:=by kernel_rfl
theorem k4:mJ.map (fun x=>Tryz.prog.kindOfLater x.1)=MA.map some:=by kernel_rfl
theorem k5:(Tryz.prog.funcNamed "gosem.cut.vars").isSome=true:=by kernel_rfl
theorem k6:varsNamedLaterB Tryz.prog (varsId Tryz.prog) mJ=true:=by kernel_rfl
theorem Ql:(mJ.all fun x=>x.2.handleName?.isNone)=true:=by kernel_rfl
theorem CK:Tryz.pinned.checked.prog.pinnedFits "unicode/utf8.first" = true:=by kernel_rfl
theorem Lq:Tryz.pinned.checked.prog.headLifts.contains "ownunsafe" = false:=by kernel_rfl
theorem Kr:Tryz.pinned.checked.prog.listedFits [("internal/strconv.uint64pow10",Rows.laid_internal_strconv_uint64pow10),("math/bits.deBruijn32tab",Rows.laid_math_bits_deBruijn32tab),("math/bits.deBruijn64tab",Rows.laid_math_bits_deBruijn64tab),("strconv.ErrSyntax",Rows.laid_strconv_ErrSyntax),("strconv.ErrRange",Rows.laid_strconv_ErrRange),("pub-brocade/pub/gomultibase.ErrUnsupportedEncoding",Rows.laid_pub_brocade_pub_gomultibase_ErrUnsupportedEncoding),("unicode/utf8.first",Rows.laid_unicode_utf8_first),("unicode/utf8.acceptRanges",Rows.laid_unicode_utf8_acceptRanges),("encoding/hex.ErrLength",Rows.laid_encoding_hex_ErrLength),("pub-brocade/pub/gomultibase.base256emojiTable",Rows.laid_pub_brocade_pub_gomultibase_base256emojiTable),("pub-brocade/pub/gomultihash.ErrTooShort",Rows.laid_pub_brocade_pub_gomultihash_ErrTooShort),("pub-brocade/pub/gomultihash.ErrVarintBufferShort",Rows.laid_pub_brocade_pub_gomultihash_ErrVarintBufferShort),("pub-brocade/pub/gomultihash.ErrVarintTooLong",Rows.laid_pub_brocade_pub_gomultihash_ErrVarintTooLong),("pub-brocade/pub/govarint.ErrOverflow",Rows.laid_pub_brocade_pub_govarint_ErrOverflow),("pub-brocade/pub/govarint.ErrNotMinimal",Rows.laid_pub_brocade_pub_govarint_ErrNotMinimal),("pub-brocade/pub/govarint.ErrUnderflow",Rows.laid_pub_brocade_pub_govarint_ErrUnderflow),("pub-brocade/pub/gomultibase.hexTableUppers",Rows.laid_pub_brocade_pub_gomultibase_hexTableUppers),("net/url.table",Rows.laid_net_url_table),("pub-brocade/pub/gomultihash.ErrInvalidMultihash",Rows.laid_pub_brocade_pub_gomultihash_ErrInvalidMultihash),("pub-brocade/pub/gocid.errCidTooShort",Rows.laid_pub_brocade_pub_gocid_errCidTooShort),("bytes.ErrTooLarge",Rows.laid_bytes_ErrTooLarge),("pub-brocade/pub/multiaddr.errNilPtr",Rows.laid_pub_brocade_pub_multiaddr_errNilPtr)]=true:=by
 unfold Program.listedFits
 rw[Lq]
 kernel_rfl
end
section
open Go
theorem PF:∀os tape,varsDone Tryz.prog 400 (varsId Tryz.prog) os tape=true:=fun _ _=>by kernel_rfl
end
section
open Go
theorem PG:∀os tape,(DataW.laidRun Tryz.prog (varsWorld Tryz.prog 400 (varsId Tryz.prog) os tape).memory 8 (mJ.map (·.1))).map (·.1)=some mJ:=fun _ _=>by kernel_rfl
end
section
open Go
def nC:Nat->Nat->List Nat->List MemPlace->Bool
 |_,_,_,[]=>true
 |b,o,seen,.cell b' o' :: r=>if Nat.beq b' b then Nat.beq o' o && nC b (o+1) seen r else !(seen.any (Nat.beq b')) && nC b' (o'+1) (b :: seen) r
 |_,_,_,.map _ :: _=>false
theorem jN:∀(l:List MemPlace) (b o:Nat) (seen:List Nat),nC b o seen l=true ->
  (∀p∈l,∃b' o',p=.cell b' o'/\((b'=b/\o<=o')∨(b'≠b/\b' ∉ seen)))/\l.Nodup
 |[],_,_,_,_=>⟨by simp,List.nodup_nil⟩
 | .map _ :: _,_,_,_,h=>by simp[nC]at h
 | .cell b' o' :: r,b,o,seen,h=>by
  unfold nC at h
  by_cases hb:b'=b
  ·subst hb
   rw[if_pos (by simp)]at h
   rw[Bool.and_eq_true]at h
   have ho:o'=o:=Nat.eq_of_beq_eq_true h.1
   subst ho
   obtain⟨h1,h2⟩:=jN r _ _ _ h.2
   refine⟨fun p hp=>?_,List.nodup_cons.2 ⟨fun hm=>?_,h2⟩⟩
   ·rcases List.mem_cons.1 hp with rfl |hp
    ·exact⟨_,_,rfl,.inl ⟨rfl,Nat.le_refl _⟩⟩
    ·obtain⟨b2,o2,rfl,h3 |h3⟩:=h1 p hp
     ·exact⟨_,_,rfl,.inl ⟨h3.1,by omega⟩⟩
     ·exact⟨_,_,rfl,.inr h3⟩
   ·obtain⟨b2,o2,he,h3 |h3⟩:=h1 _ hm
    ·injection he with e1 e2;omega
    ·injection he with e1 e2;exact h3.1 e1.symm
  ·rw[if_neg (by simpa using hb)]at h
   rw[Bool.and_eq_true]at h
   have hs:b' ∉ seen:=by
    intro hm
    have h1:=h.1
    simp only[Bool.not_eq_true',List.any_eq_false]at h1
    exact h1 b' hm (by simp)
   obtain⟨h1,h2⟩:=jN r _ _ _ h.2
   refine⟨fun p hp=>?_,List.nodup_cons.2 ⟨fun hm=>?_,h2⟩⟩
   ·rcases List.mem_cons.1 hp with rfl |hp
    ·exact⟨_,_,rfl,.inr ⟨hb,hs⟩⟩
    ·obtain⟨b2,o2,rfl,h3 |h3⟩:=h1 p hp
     ·rw[h3.1];exact⟨_,_,rfl,.inr ⟨hb,hs⟩⟩
     ·simp only[List.mem_cons,not_or]at h3
      exact⟨_,_,rfl,.inr h3.2⟩
   ·obtain⟨b2,o2,he,h3 |h3⟩:=h1 _ hm
    ·injection he with e1 e2;omega
    ·injection he with e1 e2;exact h3.1 e1.symm
def kt(b:Nat):List MemPlace->Bool
 |[]=>true
 | .cell b' _ :: r=>!(Nat.beq b' b) && kt b r
 | .map _ :: r=>kt b r
theorem iH{b:Nat}:∀ {l:List MemPlace},kt b l=true->∀o,MemPlace.cell b o ∉ l
 |[],_,_,hm=>by cases hm
 | .cell b' o' :: r,h,o,hm=>by
  simp only[kt,Bool.and_eq_true,Bool.not_eq_true']at h
  rcases List.mem_cons.1 hm with he |hm
  ·injection he with e1 e2
   subst e1
   have:=h.1
   simp at this
  ·exact iH h.2 o hm
 | .map _ :: r,h,o,hm=>by
  simp only[kt]at h
  rcases List.mem_cons.1 hm with he |hm
  ·cases he
  ·exact iH h o hm
theorem PH:∀os tape,(DataW.laidRun Tryz.prog (varsWorld Tryz.prog 400 (varsId Tryz.prog) os tape).memory 8 (mJ.map (·.1))).map (fun x=>nC 100000 0 [] x.2 && kt 100000 x.2)=some true:=fun _ _=>by kernel_rfl
end
section
open Go
def qD(P:Program)(w:World)(c:Array Value)(o:Nat):Bool:=
 match c[o]? with
 |some (.iface u v)=>Value.okWideB P w u v
 |_=>true
def fm(P:Program)(w:World):Nat->Array Value->List MemPlace->Bool
 |_,_,[]=>true
 |b,c,.cell b' o :: r=>if Nat.beq b' b then qD P w c o && fm P w b c r else
   match w.heap[b']? with
   |some (.cells c' _ (0,0))=>qD P w c' o && fm P w b' c' r
   |_=>false
 |b,c,.map _ :: r=>fm P w b c r
theorem kP{P:Program}{w:World}{b o:Nat}{c:Array Value}{e:TypeId}(h:w.heap[b]?=some (.cells c e (0,0)))(hf:qD P w c o=true) :
  ((match w.heap[b]? with |some (.cells _ _ (0,0))=>true |_=>false) && (match w.cell? ⟨b,o,none⟩ with |some (.iface u v)=>Value.okWideB P w u v |_=>true))=true:=by
 rw[h]
 simp only[Bool.true_and]
 have:w.cell? ⟨b,o,none⟩=c[o]?:=by simp[World.cell?,h]
 rw[this]
 exact hf
theorem dv{P:Program}{w:World}:∀(l:List MemPlace) (b:Nat) (c:Array Value),(∃e,w.heap[b]?=some (.cells c e (0,0)))∨(∀o,MemPlace.cell b o ∉ l)->fm P w b c l=true->laidRowsB P w l=true
 |[],_,_,_,_=>rfl
 | .map _ :: r,b,c,hc,h=>by
  unfold fm at h
  have:=dv r b c (hc.imp id fun hn o hm=>hn o (List.mem_cons_of_mem _ hm)) h
  unfold laidRowsB at *
  simpa using this
 | .cell b' o :: r,b,c,hc,h=>by
  unfold fm at h
  by_cases hb:b'=b
  ·subst hb
   rw[if_pos (by simp),Bool.and_eq_true]at h
   rcases hc with⟨e,hc⟩ |hn
   ·have h2:=dv r b' c (.inl ⟨e,hc⟩) h.2
    have h1:=kP hc h.1
    unfold laidRowsB at *
    rw[List.all_cons,Bool.and_eq_true]
    exact⟨h1,h2⟩
   ·exact absurd (List.mem_cons_self ..) (hn o)
  ·rw[if_neg (by simpa using hb)]at h
   split at h
   ·rename_i c' e hc'
    rw[Bool.and_eq_true]at h
    have h2:=dv r b' c' (.inl ⟨e,hc'⟩) h.2
    have h1:=kP hc' h.1
    unfold laidRowsB at *
    rw[List.all_cons,Bool.and_eq_true]
    exact⟨h1,h2⟩
   ·cases h
theorem jJ{P:Program}{w:World}{fuel:Nat}:∀ {a b:List String}{x:List (String×DataW Unit)×List MemPlace},DataW.laidRun P w fuel (a++b)=some x ->
  ∃xa xb,DataW.laidRun P w fuel a=some xa/\DataW.laidRun P w fuel b=some xb/\x.2=xa.2++xb.2
 |[],b,x,h=>⟨([],[]),x,rfl,h,rfl⟩
 |n :: a,b,x,h=>by
  simp only[List.cons_append,DataW.laidRun]at h ⊢
  split at h
  ·rename_i g hg
   split at h
   ·rename_i t cs ht hc
    split at h
    ·rename_i x1 y h1 h2
     obtain⟨xa,xb,e1,e2,e3⟩:=jJ h2
     cases h
     refine⟨_,xb,by rw[h1,e1],e2,?_⟩
     simp[e3]
    ·cases h
   ·cases h
  ·cases h
end
section
open Go
theorem PI:∀os tape,(DataW.laidRun Tryz.prog (varsWorld Tryz.prog 400 (varsId Tryz.prog) os tape).memory 8 ((mJ.take 9).map (·.1))).map (fun x=>fm Tryz.prog (varsWorld Tryz.prog 400 (varsId Tryz.prog) os tape).memory 100000 #[] x.2)=some true:=fun _ _=>by kernel_rfl
end
section
open Go
theorem PJ:∀os tape,(DataW.laidRun Tryz.prog (varsWorld Tryz.prog 400 (varsId Tryz.prog) os tape).memory 8 ((mJ.drop 9).map (·.1))).map (fun x=>fm Tryz.prog (varsWorld Tryz.prog 400 (varsId Tryz.prog) os tape).memory 100000 #[] x.2)=some true:=fun _ _=>by kernel_rfl
end
section
open Go
theorem Js(os:Os)(tape:Tape):(DataW.laidRun Tryz.prog (varsWorld Tryz.prog 400 (varsId Tryz.prog) os tape).memory 8 (mJ.map (·.1))).map (fun x=>decide x.2.Nodup && laidRowsB Tryz.prog (varsWorld Tryz.prog 400 (varsId Tryz.prog) os tape).memory x.2)=some true:=by
 have h1:=PH os tape
 have h2:=PI os tape
 have h3:=PJ os tape
 cases h:(DataW.laidRun Tryz.prog (varsWorld Tryz.prog 400 (varsId Tryz.prog) os tape).memory 8 (mJ.map (·.1))) with
 |none=>rw[h]at h1;cases h1
 |some x=>
  have h':=h
  rw[show mJ.map (·.1)=(mJ.take 9).map (·.1)++(mJ.drop 9).map (·.1) by rw[<- List.map_append,List.take_append_drop]]at h'
  obtain⟨xa,xb,e1,e2,e3⟩:=jJ h'
  rw[h]at h1
  rw[e1]at h2
  rw[e2]at h3
  simp only[Option.map_some,Option.some.injEq]at h1 h2 h3 ⊢
  rw[Bool.and_eq_true]at h1
  have n1:=(jN x.2 _ _ _ h1.1).2
  have nb:=iH h1.2
  rw[e3]at nb
  have n2:=dv xa.2 100000 #[] (.inr fun o hm=>nb o (List.mem_append_left _ hm)) h2
  have n3:=dv xb.2 100000 #[] (.inr fun o hm=>nb o (List.mem_append_right _ hm)) h3
  have n4:laidRowsB Tryz.prog (varsWorld Tryz.prog 400 (varsId Tryz.prog) os tape).memory x.2=true:=by
   rw[e3]
   unfold laidRowsB at *
   rw[List.all_append,n2,n3]
   rfl
  rw[n4,decide_eq_true n1]
  rfl
theorem Rq:Tryz.prog.laidByTextLater mJ MA true:=Program.laidByTextLater_by_run 400 8 k1 k2 k3 k4 k5 k6 PF PG Js Ql
theorem jq:Rows.fnMaComponentRow.laidByTextAt .later Tryz.pinned [.data,.data,.data,.sentinel,.sentinel,.sentinel,.pinned,.data,.sentinel,.data,.sentinel,.sentinel,.sentinel,.sentinel,.sentinel,.sentinel,.data,.data,.sentinel,.sentinel,.sentinel,.sentinel] true:=
 OpenClaim.laidByTextAt_pinned rfl rfl Rq rfl rfl rfl rfl (fun y hy _e=>by
  simp only[Rows.fnMaComponentRow,List.zip_cons_cons,List.zip_nil_right,List.mem_cons,List.mem_nil_iff,or_false]at hy
  rcases hy with rfl |rfl |rfl |rfl |rfl |rfl |rfl |rfl |rfl |rfl |rfl |rfl |rfl |rfl |rfl |rfl |rfl |rfl |rfl |rfl |rfl |rfl
  ·cases _e
  ·cases _e
  ·cases _e
  ·cases _e
  ·cases _e
  ·cases _e
  ·exact⟨CK,by kernel_rfl⟩
  ·cases _e
  ·cases _e
  ·cases _e
  ·cases _e
  ·cases _e
  ·cases _e
  ·cases _e
  ·cases _e
  ·cases _e
  ·cases _e
  ·cases _e
  ·cases _e
  ·cases _e
  ·cases _e
  ·cases _e) Kr
end
section
open Go Go.ChangeShapes Go.WideShapes Go.ChangeAt Go.RowKit Go.Rx
theorem CS{H:Type}{enc:TypeId×Value->H}{w:World}{fuel:Nat}{cs:List Value}{x:DataW H×List MemPlace}{A:Option Addr}{n c:Nat}(h:DataW.trod enc Tryz.prog w 0 (fun _=>true) true fuel 22 cs=some x)(he:cs=[.slice A n c]):n<=c/\(A=none->c=0):=by
 rcases open_ints Tryz.underlying22 Tryz.underlying5 I4 h with⟨h0,_⟩ |⟨a,len,cap,zs,h1,_,hle,_⟩
 ·rw[he]at h0
  cases h0
  exact⟨Nat.le_refl _,fun _=>rfl⟩
 ·rw[he]at h1
  cases h1
  exact⟨hle,fun h=>by cases h⟩
theorem Ch:Rx.CompTypes Tryz.prog 24 31 5 { name := "Code",type:=3,offset:=0,embedded:=false,tag := "",pkgPath := "",byteOffset:=0 }
  {name := "Value",type:=22,offset:=1,embedded:=false,tag := "",pkgPath := "",byteOffset:=8 } where
 t:=Tryz.underlying24
 e:=Tryz.underlying31
 ec:=by kernel_rfl
 eb:=of_decide_eq_true (by kernel_rfl)
 i:=Tryz.underlying3
 io:=rfl
 ic:=by kernel_rfl
 y:=Tryz.underlying22
 yo:=rfl
 yc:=by kernel_rfl
 u:=Tryz.underlying5
 uc:=by kernel_rfl
 ub:=of_decide_eq_true (by kernel_rfl)
theorem tU{H:Type}{enc:TypeId×Value->H}{w:World}{fuel:Nat}{cs:List Value}{x:DataW H×List MemPlace}(h:DataW.trod enc Tryz.prog w 0 (fun _=>true) true fuel 31 cs=some x)(hsz:∀n∈x.1.weights Tryz.prog 31,n<=reachBytes) :
  ∃z A n c l,cs=[.int .i64 z,.slice A n c]/\Bts w w.heap.size A n l/\n<=c/\(A=none->c=0):=by
 have k:=Ch
 obtain⟨y0,y1,n',he,hlen,h3,h4⟩:=trod_struct2 k.e h
 rw[k.io,k.ic]at h3
 rw[k.yo,k.yc]at h4
 rw[k.ec]at hlen
 obtain⟨z,e0,_,_⟩:=DataW.trod_int k.i h3
 have hD:x.1=.agg [y0.1,y1.1]:=congrArg Prod.fst he
 obtain⟨A,n1,cap1,l,e1,hbt,hr⟩:=Rx.bts_of_trod k.y k.u k.uc k.ub h4 (fun v hv=>by
  refine hsz v ?_
  rw[hD]
  simp only[DataW.weights,k.e,DataW.weightsEach,List.map_cons,List.map_nil,List.mem_append]
  exact .inr (.inl hv))
 obtain⟨hc1,hc2⟩:=CS h4 e1
 match cs,hlen,e0,e1 with
 |[c0,c1],_,e0,e1=>
  simp at e0 e1
  subst e0 e1
  exact⟨z,A,n1,cap1,l,rfl,hbt,hc1,hc2⟩
theorem CX{v:Value}{z:Int}{a:Option Addr}{n c:Nat}(h:v.cells.toList=[.int .i64 z,.slice a n c])(hv:∃cs,v=.agg cs/\cs.size=Tryz.prog.cellsOf 31):v=.agg #[.int .i64 z,.slice a n c]:=by
 obtain⟨cs,rfl,_⟩:=hv
 have h':cs.toList=[.int .i64 z,.slice a n c]:=h
 have:cs=#[.int .i64 z,.slice a n c]:=Array.ext' h'
 rw[this]
theorem lifted(os:Os)(started:os.Started)(H:Type)(enc:TypeId×Value->H) :
  ReturnsInHanded {} Tryz.checked os 4 .any (fun w args=>(Rows.fnMaComponentSpec.pre enc Tryz.prog Tryz.f4 [] false w args/\laidMetH Tryz.prog Rows.fnMaComponentRow.laid w)/\sizedMet enc Tryz.prog Tryz.f4 (OpenSpec.ofChange Rows.fnMaComponentSpec) false w args)
   (Rows.fnMaComponentSpec.post enc Tryz.prog Tryz.f4 false true false false):=by
 refine rp (C:=Tryz.checked) (X:=fun w _=>laidMetH Tryz.prog Rows.fnMaComponentRow.laid w) (fun _ _ _ hh h=>h.of_heap hh) M5 started Gi Tryz.func4
  (sI (enc:=enc) (C:=Tryz.checked) (X:=fun w _=>laidMetH Tryz.prog Rows.fnMaComponentRow.laid w) (World.laidAll Tryz.prog os Rows.fnMaComponentRow.laid) #[.agg #[.int .i64 0,.slice none 0 0]] 8 (World.laidAll_os _ _ _) (E6 os) (MG os) (J1 os H enc) (Gz os H enc) (Gy os)) ?_
 intro W base args ds gs before hval0 hW _ hsz hL hsh
 have hval:∀(j:Nat) t v,Tryz.f4.params[j]?=some t->args[j]?=some v->Value.okWide Tryz.prog W .any base t v:=hval0
 have hW':=hW
 obtain⟨p,q,hA0,hV,rfl,_,_⟩:=hW
 have hA:DataW.TrodAll enc Tryz.prog W 0 (fun _=>true) true Tryz.f4.params.toList args.toList ds p:=hA0
 rw[Tryz.params4]at hA hval
 obtain⟨v0,d0,rfl,rfl,h0⟩:=trodAll_one hA
 obtain⟨rfl,rfl⟩:=trodVars_none hV
 have hsz':(DataW.weightsEach Tryz.prog [31] [d0]).all (·<=reachBytes)=true:=by
  have:=hsz
  rw[show Tryz.checked.prog=Tryz.prog from rfl,Tryz.params4]at this
  exact this
 have hw0:∀n∈d0.weights Tryz.prog 31,n<=reachBytes:=fun n hn=>by
  have:=List.all_eq_true.1 hsz' n (by simp[DataW.weightsEach,hn])
  simpa using this
 obtain⟨fu0,hf0⟩:=id h0
 obtain⟨z,A,n,c,l,e0,hb,hc1,hc2⟩:=tU hf0 hw0
 obtain rfl:=CX e0 (okWide_struct Tryz.underlying31 (hval 0 31 v0 rfl rfl))
 refine(mj z A n c l W.heap.size W hb (Nat.le_refl _) hc1 hc2 (Gr hL hsh)).mono ?_
 rintro e W' ⟨v,rfl,⟨b,rfl,rfl⟩,hb⟩
 have hlt:∀x∈p,x.block<W.heap.size:=hA0.lt
 refine⟨_,rfl,_,_,_,[],p,[],hW',trodAll_mk1 (shut_bool Tryz.underlying4 _),?_,rfl,hb.frame _,fun h=>by cases h⟩
 exact trodAll_mk1 (hb.trod F7 zo Gu h0 fun x hx=>hlt x hx)
theorem holds:Rows.FnMaComponentSaid:=
 OpenClaim.holds_of_wide 4 Tryz.f4 rfl rfl rfl rfl rfl rfl rfl ⟨rfl,rfl,rfl,rfl,rfl⟩ rfl rfl rfl rfl rfl Ei Tryz.func4 I5 KU MH
  (fun os started H enc _=>lifted os started H enc)
theorem fnMaComponent_holds:Rows.FnMaComponentCardSaid:=
 Claim7.holds_tied_plain_at .later [] [.data,.data,.data,.sentinel,.sentinel,.sentinel,.pinned,.data,.sentinel,.data,.sentinel,.sentinel,.sentinel,.sentinel,.sentinel,.sentinel,.data,.data,.sentinel,.sentinel,.sentinel,.sentinel] true
  (true,"63bde2e737bd9909744d5f094d0b10f2b1d1ffe7c451eb05203f24bd37ecaa63") true holds (fun _ h=>by cases h) J0 (fun _ h=>by cases h) jq rfl ⟨rfl,rfl⟩ Gd rfl
  (fun f fn hf hfn=>by
   obtain rfl:f=4:=Option.some.inj (Ei.symm.trans hf) |>.symm
   obtain rfl:fn=Tryz.f4:=(Option.some.inj (Tryz.func4.symm.trans hfn)).symm
   exact⟨JB,fun j t ht=>by
    rw[Tryz.params4]at ht
    have hm:t∈[31]:=by simpa using Array.mem_of_getElem? ht
    exact(show Tryz.prog.wantsStandIn t=false by simpa using List.all_eq_true.1 JZ t hm)⟩)
  Ky
#print axioms fnMaComponent_holds
end
end Go.Proofs.YtnklanajebphpaaGreatDoor
