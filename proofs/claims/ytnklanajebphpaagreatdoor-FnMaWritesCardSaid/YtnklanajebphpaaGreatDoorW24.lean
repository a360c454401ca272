/- Joined texts: Te. -/
import Derived.Test.YtnklanajebphpaaGreatDoorW20
set_option maxRecDepth 100000
set_option maxHeartbeats 4000000
set_option linter.unusedVariables false
set_option linter.unusedSimpArgs false
namespace Go.Proofs.YtnklanajebphpaaGreatDoor
open IntKind
open Go
def pR(P:Program)(w:World)(c:Array Value)(o:Nat):Bool:=
 match c[o]? with
 |some (.iface u v)=>Value.okWideB P w u v
 |_=>true
def eW(P:Program)(w:World):Nat->Array Value->List MemPlace->Bool
 |_,_,[]=>true
 |b,c,.cell b' o :: r=>if Nat.beq b' b then pR P w c o && eW P w b c r else
   match w.heap[b']? with
   |some (.cells c' _ (0,0))=>pR P w c' o && eW P w b' c' r
   |_=>false
 |b,c,.map _ :: r=>eW P w b c r
theorem ky{P:Program}{w:World}{b o:Nat}{c:Array Value}{e:TypeId}(h:w.heap[b]?=some (.cells c e (0,0)))(hf:pR P w c o=true) :
  ((match w.heap[b]? with |some (.cells _ _ (0,0))=>true |_=>false) && (match w.cell? ⟨b,o,none⟩ with |some (.iface u v)=>Value.okWideB P w u v |_=>true))=true:=by
 rw[h]
 simp only[Bool.true_and]
 have:w.cell? ⟨b,o,none⟩=c[o]?:=by simp[World.cell?,h]
 rw[this]
 exact hf
theorem di{P:Program}{w:World}:∀(l:List MemPlace) (b:Nat) (c:Array Value),(∃e,w.heap[b]?=some (.cells c e (0,0)))∨(∀o,MemPlace.cell b o ∉ l)->eW P w b c l=true->laidRowsB P w l=true
 |[],_,_,_,_=>rfl
 | .map _ :: r,b,c,hc,h=>by
  unfold eW at h
  have:=di r b c (hc.imp id fun hn o hm=>hn o (List.mem_cons_of_mem _ hm)) h
  unfold laidRowsB at *
  simpa using this
 | .cell b' o :: r,b,c,hc,h=>by
  unfold eW at h
  by_cases hb:b'=b
  ·subst hb
   rw[if_pos (by simp),Bool.and_eq_true]at h
   rcases hc with⟨e,hc⟩ |hn
   ·have h2:=di r b' c (.inl ⟨e,hc⟩) h.2
    have h1:=ky hc h.1
    unfold laidRowsB at *
    rw[List.all_cons,Bool.and_eq_true]
    exact⟨h1,h2⟩
   ·exact absurd (List.mem_cons_self ..) (hn o)
  ·rw[if_neg (by simpa using hb)]at h
   split at h
   ·rename_i c' e hc'
    rw[Bool.and_eq_true]at h
    have h2:=di r b' c' (.inl ⟨e,hc'⟩) h.2
    have h1:=ky hc' h.1
    unfold laidRowsB at *
    rw[List.all_cons,Bool.and_eq_true]
    exact⟨h1,h2⟩
   ·cases h
theorem jm{P:Program}{w:World}{fuel:Nat}:∀ {a b:List String}{x:List (String×DataW Unit)×List MemPlace},DataW.laidRun P w fuel (a++b)=some x ->
  ∃xa xb,DataW.laidRun P w fuel a=some xa/\DataW.laidRun P w fuel b=some xb/\x.2=xa.2++xb.2
 |[],b,x,h=>⟨([],[]),x,rfl,h,rfl⟩
 |n :: a,b,x,h=>by
  simp only[List.cons_append,DataW.laidRun]at h ⊢
  split at h
  ·rename_i g hg
   split at h
   ·rename_i t cs ht hc
    split at h
    ·rename_i x1 y h1 h2
     obtain⟨xa,xb,e1,e2,e3⟩:=jm h2
     cases h
     refine⟨_,xb,by rw[h1,e1],e2,?_⟩
     simp[e3]
    ·cases h
   ·cases h
  ·cases h
end Go.Proofs.YtnklanajebphpaaGreatDoor
