/- Joined texts: P1. -/
import Derived.Lib.ItoaNum
import Derived.Lib.ParseIntB
set_option maxRecDepth 100000
set_option maxHeartbeats 4000000
set_option linter.unusedVariables false
set_option linter.unusedSimpArgs false
namespace Go.Rx
open IntKind
open Go.Lib
theorem iK(M:Nat)(c:UInt8):∀(l:List UInt8) (acc u:Nat),parseUintM M acc l=.ok u->parseUintM M acc (l++[c])=parseUintM M u [c]
 |[],acc,u,h=>by
  simp only[parseUintM]at h
  cases h
  rfl
 |x :: r,acc,u,h=>by
  simp only[parseUintM,List.cons_append]at h ⊢
  split at h
  ·rename_i h1
   rw[if_pos h1]
   split at h
   ·cases h
   ·rename_i h2
    rw[if_neg h2]
    split at h
    ·cases h
    ·rename_i h3
     rw[if_neg h3]
     have:=iK M c r _ _ h
     simpa [parseUintM] using this
  ·cases h
theorem oc{d:Nat}(h:d<10):(UInt8.ofNat (48+d)).toNat=48+d:=by
 rw[UInt8.toNat_ofNat']
 omega
theorem fF(M:Nat):∀(n:Nat),n<=M->n<18446744073709551616->parseUintM M 0 (decDigits n)=.ok n:=by
 intro n
 induction n using Nat.strongRecOn with
 |_ n ih=>
  intro hM h64
  rw[decDigits]
  split
  ·rename_i h
   simp only[parseUintM,oc h]
   rw[if_pos (by omega),if_neg (by omega),if_neg (by omega)]
   congr 1
   omega
  ·rename_i h
   have:=ih (n/10) (by omega) (by omega) (by omega)
   rw[iK M _ _ _ _ this]
   simp only[parseUintM,oc (Nat.mod_lt n (by omega))]
   rw[if_pos (by omega),if_neg (by omega),if_neg (by omega)]
   congr 1
   omega
theorem fu(n:Nat):decDigits n≠[]:=by
 rw[decDigits]
 split <;> simp
end Go.Rx
