/- Joined texts: Td. -/
import Derived.Test.YtnklanajebphpaaGreatDoorW20
set_option maxRecDepth 100000
set_option maxHeartbeats 4000000
set_option linter.unusedVariables false
set_option linter.unusedSimpArgs false
namespace Go.Proofs.YtnklanajebphpaaGreatDoor
open IntKind
open Go
def mY:Nat->Nat->List Nat->List MemPlace->Bool
 |_,_,_,[]=>true
 |b,o,seen,.cell b' o' :: r=>if Nat.beq b' b then Nat.beq o' o && mY b (o+1) seen r else !(seen.any (Nat.beq b')) && mY b' (o'+1) (b :: seen) r
 |_,_,_,.map _ :: _=>false
theorem jr:∀(l:List MemPlace) (b o:Nat) (seen:List Nat),mY b o seen l=true ->
  (∀p∈l,∃b' o',p=.cell b' o'/\((b'=b/\o<=o')∨(b'≠b/\b' ∉ seen)))/\l.Nodup
 |[],_,_,_,_=>⟨by simp,List.nodup_nil⟩
 | .map _ :: _,_,_,_,h=>by simp[mY]at h
 | .cell b' o' :: r,b,o,seen,h=>by
  unfold mY at h
  by_cases hb:b'=b
  ·subst hb
   rw[if_pos (by simp)]at h
   rw[Bool.and_eq_true]at h
   have ho:o'=o:=Nat.eq_of_beq_eq_true h.1
   subst ho
   obtain⟨h1,h2⟩:=jr r _ _ _ h.2
   refine⟨fun p hp=>?_,List.nodup_cons.2 ⟨fun hm=>?_,h2⟩⟩
   ·rcases List.mem_cons.1 hp with rfl |hp
    ·exact⟨_,_,rfl,.inl ⟨rfl,Nat.le_refl _⟩⟩
    ·obtain⟨b2,o2,rfl,h3 |h3⟩:=h1 p hp
     ·exact⟨_,_,rfl,.inl ⟨h3.1,by omega⟩⟩
     ·exact⟨_,_,rfl,.inr h3⟩
   ·obtain⟨b2,o2,he,h3 |h3⟩:=h1 _ hm
    ·injection he with e1 e2;omega
    ·injection he with e1 e2;exact h3.1 e1.symm
  ·rw[if_neg (by simpa using hb)]at h
   rw[Bool.and_eq_true]at h
   have hs:b' ∉ seen:=by
    intro hm
    have h1:=h.1
    simp only[Bool.not_eq_true',List.any_eq_false]at h1
    exact h1 b' hm (by simp)
   obtain⟨h1,h2⟩:=jr r _ _ _ h.2
   refine⟨fun p hp=>?_,List.nodup_cons.2 ⟨fun hm=>?_,h2⟩⟩
   ·rcases List.mem_cons.1 hp with rfl |hp
    ·exact⟨_,_,rfl,.inr ⟨hb,hs⟩⟩
    ·obtain⟨b2,o2,rfl,h3 |h3⟩:=h1 p hp
     ·rw[h3.1];exact⟨_,_,rfl,.inr ⟨hb,hs⟩⟩
     ·simp only[List.mem_cons,not_or]at h3
      exact⟨_,_,rfl,.inr h3.2⟩
   ·obtain⟨b2,o2,he,h3 |h3⟩:=h1 _ hm
    ·injection he with e1 e2;omega
    ·injection he with e1 e2;exact h3.1 e1.symm
def jY(b:Nat):List MemPlace->Bool
 |[]=>true
 | .cell b' _ :: r=>!(Nat.beq b' b) && jY b r
 | .map _ :: r=>jY b r
theorem ij{b:Nat}:∀ {l:List MemPlace},jY b l=true->∀o,MemPlace.cell b o ∉ l
 |[],_,_,hm=>by cases hm
 | .cell b' o' :: r,h,o,hm=>by
  simp only[jY,Bool.and_eq_true,Bool.not_eq_true']at h
  rcases List.mem_cons.1 hm with he |hm
  ·injection he with e1 e2
   subst e1
   have:=h.1
   simp at this
  ·exact ij h.2 o hm
 | .map _ :: r,h,o,hm=>by
  simp only[jY]at h
  rcases List.mem_cons.1 hm with he |hm
  ·cases he
  ·exact ij h o hm
theorem OQ:∀os tape,(DataW.laidRun Tryz.prog (varsWorld Tryz.prog 400 (varsId Tryz.prog) os tape).memory 8 (ml.map (·.1))).map (fun x=>mY 100000 0 [] x.2 && jY 100000 x.2)=some true:=fun _ _=>by kernel_rfl
end Go.Proofs.YtnklanajebphpaaGreatDoor
