/- A part of the proof of FnTextFirst: a rule is built and its first dates are taken, walked. -/
import Derived.Test.YtkidgehblodbcaaGreatDoorA13
import Derived.Test.YtkidgehblodbcaaGreatDoorA22
set_option linter.all false
set_option maxRecDepth 100000
set_option maxHeartbeats 16000000
namespace Go.Proofs.YtkidgehblodbcaaGreatDoor
namespace En
open Go.RowKit Go.Proofs.Tryz
structure Uu (o:yB):Prop where
 ls:(∀v∈(o.ls.getD 7 []),(0<=v/\v<=59))/\(∀v∈(o.ls.getD 6 []),(0<=v/\v<=59))/\(∀v∈(o.ls.getD 5 []),(0<=v/\v<=23))/\(∀v∈(o.ls.getD 2 []),(1<=v/\v<=31)\/(-31<=v/\v<=-1))/\(∀v∈(o.ls.getD 3 []),(1<=v/\v<=366)\/(-366<=v/\v<=-1))/\(∀v∈(o.ls.getD 4 []),(1<=v/\v<=53)\/(-53<=v/\v<=-1))/\(∀v∈(o.ls.getD 1 []),(1<=v/\v<=12))/\(∀v∈(o.ls.getD 0 []),(1<=v/\v<=366)\/(-366<=v/\v<=-1))
 len:∀k,(o.ls.getD k []).length<=1000
 FA:o.FA.length<=1000/\∀d∈o.FA,-53<=d.2/\d.2<=53
 EA:0<=o.EA
def Vu (o:yB):List SV:=[.s (0+8) 0 (o.ls.getD 7 []).length,S [98,121,115,101,99,111,110,100], .s 11 0 2,B false, .s (0+7) 0 (o.ls.getD 6 []).length,S [98,121,109,105,110,117,116,101], .s 12 0 2,B false, .s (0+6) 0 (o.ls.getD 5 []).length,S [98,121,104,111,117,114], .s 13 0 2,B false, .s (0+2) 0 (o.ls.getD 2 []).length,S [98,121,109,111,110,116,104,100,97,121], .s 14 0 2,B true, .s (0+3) 0 (o.ls.getD 3 []).length,S [98,121,121,101,97,114,100,97,121], .s 15 0 2,B true, .s (0+4) 0 (o.ls.getD 4 []).length,S [98,121,119,101,101,107,110,111], .s 16 0 2,B true, .s (0+1) 0 (o.ls.getD 1 []).length,S [98,121,109,111,110,116,104], .s 17 0 2,B false, .s 0 0 (o.ls.getD 0 []).length,S [98,121,115,101,116,112,111,115], .s 18 0 2,B true]
def Wu (o:yB):HS:=SM 0 o++[(10,some (.st (tE 0 o))),(11,some (.X 1 3 (A [0,59]))),(12,some (.X 1 3 (A [0,59]))),(13,some (.X 1 3 (A [0,23]))),(14,some (.X 1 3 (A [1,31]))),(15,some (.X 1 3 (A [1,366]))),(16,some (.X 1 3 (A [1,53]))),(17,some (.X 1 3 (A [1,12]))),(18,some (.X 1 3 (A [1,366]))),(19,some (.X 4 124 (Vu o)))]
def Xu (o:yB):MB {k:Nat//k<=8}where
 F k:=[(1, .u (.p 10 0)),(4, .u (.fn (.func 70) [] [])),(45, .u (.s 19 0 8)),(46, .u (I 8)),(47, .u (I k.1))]
 H _:=Wu o
 n _:=20
def nmK (k:Nat):Nat:=[8,7,6,2,3,4,1,0].getD k 0
def VE (o:yB) (k:Nat):List Int:=o.ls.getD ([7,6,5,2,3,4,1,0].getD k 0) []
def lJ (o:yB) (k:Nat):MB {j:Nat//j<=(VE o k).length}where
 F j:=[(1, .u (.p 10 0)),(4, .u (.fn (.func 70) [] [])),(45, .u (.s 19 0 8)),(46, .u (I 8)),(47, .u (I k)),(6, .u (.p 20 0)),(52, .u (.s (nmK k) 0 (VE o k).length)),(53, .u (I (VE o k).length)),(54, .u (I j.1))]
 H _:=Wu o++[(20,some (.st (((Vu o).drop (4*k)).take 4)))]
 n _:=21
def Yu (o:yB):MB {i:Nat//i<=o.FA.length}where
 F i:=[(1, .u (.p 10 0)),(73, .u (.s (0+5) 0 o.FA.length)),(74, .u (I o.FA.length)),(75, .u (I i.1))]
 H _:=SM 0 o++[(10,some (.st (tE 0 o)))]
 n _:=20
theorem Zu (o:yB) (h:Uu o):Fn prog 36 [.agg (tE 0 o)] (SM 0 o++[]) 10 (.v .nilIface) [] 10:=by
 refine fm (KA 2553393297236569845680573279) func36 λw W G g=> ?_
 repeat' (first
  |refine tk ?_
  |refine CA ?_|refine an ?_ ?_|(intro Z;try simp at Z))
 refine tY 4 rfl ?_
 refine FB (Xu o) (λk=>8-k.1) ?_ ?_
 ·exact⟨⟨0,Nat.zero_le _⟩,[],U,eN eF NF⟩
 ·rintro⟨k,hk⟩
  intro F H Y hF hH hn;dsimp only[Xu]at hF hH hn;subst hF hH hn
  by_cases fA:k<8
  ·have nJ:=h.len
   have fM:=h.ls
   rcases(by omega:k=0\/k=1\/k=2\/k=3\/k=4\/k=5\/k=6\/k=7)with rfl|rfl|rfl|rfl|rfl|rfl|rfl|rfl
   all_goals
    repeat' (first
     |refine AD (t:=48) true rfl rfl (And.intro (λ_=> ?_) (λh=>by cases h))
     |refine tk ?_
     |refine And.intro (λ_=>by first|(show(0:Int)<=0/\(0:Int)<8;omega)|exact⟨by decide,by decide⟩) ?_
     |refine CA ?_|refine an ?_ ?_|(intro Z;try simp at Z))
   ·refine FB (lJ o 0) (λj=>(VE o 0).length-j.1) ?_ ?_
    ·exact⟨⟨0,Nat.zero_le _⟩,[],U,eN eF NF⟩
    ·rintro⟨j,hj⟩
     intro F H Y hF hH hn;dsimp only[lJ]at hF hH hn;subst hF hH hn
     have hl:(o.ls.getD 7 []).length<=1000:=nJ 7
     have jD:=fM.1
     have ej:0+(j:Int).toNat*1=j:=O
     by_cases vB:j<(VE o 0).length
     ·have qF:j<(o.ls.getD 7 []).length:=vB
      have hv:=jD ((o.ls.getD 7 []).getD j 0) (by rw[List.getD_eq_getElem?_getD (l:=(o.ls.getD 7 [])),List.getElem?_eq_getElem qF];exact List.getElem_mem _)
      repeat' (first
       |refine AD (t:=55) true rfl eA (And.intro (λ_=> ?_) (λh=>by cases h))
       |refine AD (t:=68) false rfl rfl (And.intro (λh=>by cases h) (λ_=> ?_))
       |refine tk ?_
       |refine xL (by show 0+(j:Int).toNat*1<(o.ls.getD 7 []).length;omega) ?_
       |(refine AB 70 ?_;refine cA.R [11] func70 rfl rfl (λ_=>mQ _ _ 0 59 false O (by rw[ej];omega) (by rw[ej];exact Or.inl hv)) rfl rfl rfl BC rfl ?_)
       |refine CA ?_|refine an ?_ ?_|(intro Z;try simp at Z))
      exact⟨⟨j+1,vB⟩,[],show(VE o 0).length- (j+1)<(VE o 0).length-j by omega,eN eF NF⟩
     ·skip
      repeat' (first
       |refine AD (t:=55) false rfl eA (And.intro (λh=>by cases h) (λ_=> ?_))
       |refine tk ?_
       |refine CA ?_|refine an ?_ ?_|(intro Z;try simp at Z))
      exact⟨⟨0+1,O⟩,[],show 8- (0+1)<8-0 by omega,eN eF NF⟩
   ·refine FB (lJ o 1) (λj=>(VE o 1).length-j.1) ?_ ?_
    ·exact⟨⟨0,Nat.zero_le _⟩,[],U,eN eF NF⟩
    ·rintro⟨j,hj⟩
     intro F H Y hF hH hn;dsimp only[lJ]at hF hH hn;subst hF hH hn
     have hl:(o.ls.getD 6 []).length<=1000:=nJ 6
     have jD:=fM.2.1
     have ej:0+(j:Int).toNat*1=j:=O
     by_cases vB:j<(VE o 1).length
     ·have qF:j<(o.ls.getD 6 []).length:=vB
      have hv:=jD ((o.ls.getD 6 []).getD j 0) (by rw[List.getD_eq_getElem?_getD (l:=(o.ls.getD 6 [])),List.getElem?_eq_getElem qF];exact List.getElem_mem _)
      repeat' (first
       |refine AD (t:=55) true rfl eA (And.intro (λ_=> ?_) (λh=>by cases h))
       |refine AD (t:=68) false rfl rfl (And.intro (λh=>by cases h) (λ_=> ?_))
       |refine tk ?_
       |refine xL (by show 0+(j:Int).toNat*1<(o.ls.getD 6 []).length;omega) ?_
       |(refine AB 70 ?_;refine cA.R [12] func70 rfl rfl (λ_=>mQ _ _ 0 59 false O (by rw[ej];omega) (by rw[ej];exact Or.inl hv)) rfl rfl rfl BC rfl ?_)
       |refine CA ?_|refine an ?_ ?_|(intro Z;try simp at Z))
      exact⟨⟨j+1,vB⟩,[],show(VE o 1).length- (j+1)<(VE o 1).length-j by omega,eN eF NF⟩
     ·skip
      repeat' (first
       |refine AD (t:=55) false rfl eA (And.intro (λh=>by cases h) (λ_=> ?_))
       |refine tk ?_
       |refine CA ?_|refine an ?_ ?_|(intro Z;try simp at Z))
      exact⟨⟨1+1,O⟩,[],show 8- (1+1)<8-1 by omega,eN eF NF⟩
   ·refine FB (lJ o 2) (λj=>(VE o 2).length-j.1) ?_ ?_
    ·exact⟨⟨0,Nat.zero_le _⟩,[],U,eN eF NF⟩
    ·rintro⟨j,hj⟩
     intro F H Y hF hH hn;dsimp only[lJ]at hF hH hn;subst hF hH hn
     have hl:(o.ls.getD 5 []).length<=1000:=nJ 5
     have jD:=fM.2.2.1
     have ej:0+(j:Int).toNat*1=j:=O
     by_cases vB:j<(VE o 2).length
     ·have qF:j<(o.ls.getD 5 []).length:=vB
      have hv:=jD ((o.ls.getD 5 []).getD j 0) (by rw[List.getD_eq_getElem?_getD (l:=(o.ls.getD 5 [])),List.getElem?_eq_getElem qF];exact List.getElem_mem _)
      repeat' (first
       |refine AD (t:=55) true rfl eA (And.intro (λ_=> ?_) (λh=>by cases h))
       |refine AD (t:=68) false rfl rfl (And.intro (λh=>by cases h) (λ_=> ?_))
       |refine tk ?_
       |refine xL (by show 0+(j:Int).toNat*1<(o.ls.getD 5 []).length;omega) ?_
       |(refine AB 70 ?_;refine cA.R [13] func70 rfl rfl (λ_=>mQ _ _ 0 23 false O (by rw[ej];omega) (by rw[ej];exact Or.inl hv)) rfl rfl rfl BC rfl ?_)
       |refine CA ?_|refine an ?_ ?_|(intro Z;try simp at Z))
      exact⟨⟨j+1,vB⟩,[],show(VE o 2).length- (j+1)<(VE o 2).length-j by omega,eN eF NF⟩
     ·skip
      repeat' (first
       |refine AD (t:=55) false rfl eA (And.intro (λh=>by cases h) (λ_=> ?_))
       |refine tk ?_
       |refine CA ?_|refine an ?_ ?_|(intro Z;try simp at Z))
      exact⟨⟨2+1,O⟩,[],show 8- (2+1)<8-2 by omega,eN eF NF⟩
   ·refine FB (lJ o 3) (λj=>(VE o 3).length-j.1) ?_ ?_
    ·exact⟨⟨0,Nat.zero_le _⟩,[],U,eN eF NF⟩
    ·rintro⟨j,hj⟩
     intro F H Y hF hH hn;dsimp only[lJ]at hF hH hn;subst hF hH hn
     have hl:(o.ls.getD 2 []).length<=1000:=nJ 2
     have jD:=fM.2.2.2.1
     have ej:0+(j:Int).toNat*1=j:=O
     by_cases vB:j<(VE o 3).length
     ·have qF:j<(o.ls.getD 2 []).length:=vB
      have hv:=jD ((o.ls.getD 2 []).getD j 0) (by rw[List.getD_eq_getElem?_getD (l:=(o.ls.getD 2 [])),List.getElem?_eq_getElem qF];exact List.getElem_mem _)
      repeat' (first
       |refine AD (t:=55) true rfl eA (And.intro (λ_=> ?_) (λh=>by cases h))
       |refine AD (t:=68) false rfl rfl (And.intro (λh=>by cases h) (λ_=> ?_))
       |refine tk ?_
       |refine xL (by show 0+(j:Int).toNat*1<(o.ls.getD 2 []).length;omega) ?_
       |(refine AB 70 ?_;refine cA.R [14] func70 rfl rfl (λ_=>mQ _ _ 1 31 true O (by rw[ej];omega) (by rw[ej];exact hv.imp id λh=>⟨rfl,h⟩)) rfl rfl rfl BC rfl ?_)
       |refine CA ?_|refine an ?_ ?_|(intro Z;try simp at Z))
      exact⟨⟨j+1,vB⟩,[],show(VE o 3).length- (j+1)<(VE o 3).length-j by omega,eN eF NF⟩
     ·skip
      repeat' (first
       |refine AD (t:=55) false rfl eA (And.intro (λh=>by cases h) (λ_=> ?_))
       |refine tk ?_
       |refine CA ?_|refine an ?_ ?_|(intro Z;try simp at Z))
      exact⟨⟨3+1,O⟩,[],show 8- (3+1)<8-3 by omega,eN eF NF⟩
   ·refine FB (lJ o 4) (λj=>(VE o 4).length-j.1) ?_ ?_
    ·exact⟨⟨0,Nat.zero_le _⟩,[],U,eN eF NF⟩
    ·rintro⟨j,hj⟩
     intro F H Y hF hH hn;dsimp only[lJ]at hF hH hn;subst hF hH hn
     have hl:(o.ls.getD 3 []).length<=1000:=nJ 3
     have jD:=fM.2.2.2.2.1
     have ej:0+(j:Int).toNat*1=j:=O
     by_cases vB:j<(VE o 4).length
     ·have qF:j<(o.ls.getD 3 []).length:=vB
      have hv:=jD ((o.ls.getD 3 []).getD j 0) (by rw[List.getD_eq_getElem?_getD (l:=(o.ls.getD 3 [])),List.getElem?_eq_getElem qF];exact List.getElem_mem _)
      repeat' (first
       |refine AD (t:=55) true rfl eA (And.intro (λ_=> ?_) (λh=>by cases h))
       |refine AD (t:=68) false rfl rfl (And.intro (λh=>by cases h) (λ_=> ?_))
       |refine tk ?_
       |refine xL (by show 0+(j:Int).toNat*1<(o.ls.getD 3 []).length;omega) ?_
       |(refine AB 70 ?_;refine cA.R [15] func70 rfl rfl (λ_=>mQ _ _ 1 366 true O (by rw[ej];omega) (by rw[ej];exact hv.imp id λh=>⟨rfl,h⟩)) rfl rfl rfl BC rfl ?_)
       |refine CA ?_|refine an ?_ ?_|(intro Z;try simp at Z))
      exact⟨⟨j+1,vB⟩,[],show(VE o 4).length- (j+1)<(VE o 4).length-j by omega,eN eF NF⟩
     ·skip
      repeat' (first
       |refine AD (t:=55) false rfl eA (And.intro (λh=>by cases h) (λ_=> ?_))
       |refine tk ?_
       |refine CA ?_|refine an ?_ ?_|(intro Z;try simp at Z))
      exact⟨⟨4+1,O⟩,[],show 8- (4+1)<8-4 by omega,eN eF NF⟩
   ·refine FB (lJ o 5) (λj=>(VE o 5).length-j.1) ?_ ?_
    ·exact⟨⟨0,Nat.zero_le _⟩,[],U,eN eF NF⟩
    ·rintro⟨j,hj⟩
     intro F H Y hF hH hn;dsimp only[lJ]at hF hH hn;subst hF hH hn
     have hl:(o.ls.getD 4 []).length<=1000:=nJ 4
     have jD:=fM.2.2.2.2.2.1
     have ej:0+(j:Int).toNat*1=j:=O
     by_cases vB:j<(VE o 5).length
     ·have qF:j<(o.ls.getD 4 []).length:=vB
      have hv:=jD ((o.ls.getD 4 []).getD j 0) (by rw[List.getD_eq_getElem?_getD (l:=(o.ls.getD 4 [])),List.getElem?_eq_getElem qF];exact List.getElem_mem _)
      repeat' (first
       |refine AD (t:=55) true rfl eA (And.intro (λ_=> ?_) (λh=>by cases h))
       |refine AD (t:=68) false rfl rfl (And.intro (λh=>by cases h) (λ_=> ?_))
       |refine tk ?_
       |refine xL (by show 0+(j:Int).toNat*1<(o.ls.getD 4 []).length;omega) ?_
       |(refine AB 70 ?_;refine cA.R [16] func70 rfl rfl (λ_=>mQ _ _ 1 53 true O (by rw[ej];omega) (by rw[ej];exact hv.imp id λh=>⟨rfl,h⟩)) rfl rfl rfl BC rfl ?_)
       |refine CA ?_|refine an ?_ ?_|(intro Z;try simp at Z))
      exact⟨⟨j+1,vB⟩,[],show(VE o 5).length- (j+1)<(VE o 5).length-j by omega,eN eF NF⟩
     ·skip
      repeat' (first
       |refine AD (t:=55) false rfl eA (And.intro (λh=>by cases h) (λ_=> ?_))
       |refine tk ?_
       |refine CA ?_|refine an ?_ ?_|(intro Z;try simp at Z))
      exact⟨⟨5+1,O⟩,[],show 8- (5+1)<8-5 by omega,eN eF NF⟩
   ·refine FB (lJ o 6) (λj=>(VE o 6).length-j.1) ?_ ?_
    ·exact⟨⟨0,Nat.zero_le _⟩,[],U,eN eF NF⟩
    ·rintro⟨j,hj⟩
     intro F H Y hF hH hn;dsimp only[lJ]at hF hH hn;subst hF hH hn
     have hl:(o.ls.getD 1 []).length<=1000:=nJ 1
     have jD:=fM.2.2.2.2.2.2.1
     have ej:0+(j:Int).toNat*1=j:=O
     by_cases vB:j<(VE o 6).length
     ·have qF:j<(o.ls.getD 1 []).length:=vB
      have hv:=jD ((o.ls.getD 1 []).getD j 0) (by rw[List.getD_eq_getElem?_getD (l:=(o.ls.getD 1 [])),List.getElem?_eq_getElem qF];exact List.getElem_mem _)
      repeat' (first
       |refine AD (t:=55) true rfl eA (And.intro (λ_=> ?_) (λh=>by cases h))
       |refine AD (t:=68) false rfl rfl (And.intro (λh=>by cases h) (λ_=> ?_))
       |refine tk ?_
       |refine xL (by show 0+(j:Int).toNat*1<(o.ls.getD 1 []).length;omega) ?_
       |(refine AB 70 ?_;refine cA.R [17] func70 rfl rfl (λ_=>mQ _ _ 1 12 false O (by rw[ej];omega) (by rw[ej];exact Or.inl hv)) rfl rfl rfl BC rfl ?_)
       |refine CA ?_|refine an ?_ ?_|(intro Z;try simp at Z))
      exact⟨⟨j+1,vB⟩,[],show(VE o 6).length- (j+1)<(VE o 6).length-j by omega,eN eF NF⟩
     ·skip
      repeat' (first
       |refine AD (t:=55) false rfl eA (And.intro (λh=>by cases h) (λ_=> ?_))
       |refine tk ?_
       |refine CA ?_|refine an ?_ ?_|(intro Z;try simp at Z))
      exact⟨⟨6+1,O⟩,[],show 8- (6+1)<8-6 by omega,eN eF NF⟩
   ·refine FB (lJ o 7) (λj=>(VE o 7).length-j.1) ?_ ?_
    ·exact⟨⟨0,Nat.zero_le _⟩,[],U,eN eF NF⟩
    ·rintro⟨j,hj⟩
     intro F H Y hF hH hn;dsimp only[lJ]at hF hH hn;subst hF hH hn
     have hl:(o.ls.getD 0 []).length<=1000:=nJ 0
     have jD:=fM.2.2.2.2.2.2.2
     have ej:0+(j:Int).toNat*1=j:=O
     by_cases vB:j<(VE o 7).length
     ·have qF:j<(o.ls.getD 0 []).length:=vB
      have hv:=jD ((o.ls.getD 0 []).getD j 0) (by rw[List.getD_eq_getElem?_getD (l:=(o.ls.getD 0 [])),List.getElem?_eq_getElem qF];exact List.getElem_mem _)
      repeat' (first
       |refine AD (t:=55) true rfl eA (And.intro (λ_=> ?_) (λh=>by cases h))
       |refine AD (t:=68) false rfl rfl (And.intro (λh=>by cases h) (λ_=> ?_))
       |refine tk ?_
       |refine xL (by show 0+(j:Int).toNat*1<(o.ls.getD 0 []).length;omega) ?_
       |(refine AB 70 ?_;refine cA.R [18] func70 rfl rfl (λ_=>mQ _ _ 1 366 true O (by rw[ej];omega) (by rw[ej];exact hv.imp id λh=>⟨rfl,h⟩)) rfl rfl rfl BC rfl ?_)
       |refine CA ?_|refine an ?_ ?_|(intro Z;try simp at Z))
      exact⟨⟨j+1,vB⟩,[],show(VE o 7).length- (j+1)<(VE o 7).length-j by omega,eN eF NF⟩
     ·skip
      repeat' (first
       |refine AD (t:=55) false rfl eA (And.intro (λh=>by cases h) (λ_=> ?_))
       |refine tk ?_
       |refine CA ?_|refine an ?_ ?_|(intro Z;try simp at Z))
      exact⟨⟨7+1,O⟩,[],show 8- (7+1)<8-7 by omega,eN eF NF⟩
  ·have hq:k=8:=O
   subst hq
   have dJ:=h.FA.1
   repeat' (first
    |refine AD (t:=48) false rfl rfl (And.intro (λh=>by cases h) (λ_=> ?_))
    |refine tk ?_
    |refine CA ?_|refine an ?_ ?_|(intro Z;try simp at Z))
   refine FB (Yu o) (λi=>o.FA.length-i.1) ?_ ?_
   ·exact⟨⟨0,Nat.zero_le _⟩,[],U,eN eF NF⟩
   ·rintro⟨i,hi⟩
    intro F H Y hF hH hn;dsimp only[Yu]at hF hH hn;subst hF hH hn
    by_cases fA:i<o.FA.length
    ·have hv:=h.FA.2 (o.FA.getD i (0,0)) (by rw[List.getD_eq_getElem?_getD,List.getElem?_eq_getElem fA];exact List.getElem_mem _)
     repeat' (first
      |refine AD (t:=76) true rfl eA (And.intro (λ_=> ?_) (λh=>by cases h))
      |refine AD (t:=86) false rfl (by rw[if_neg (by simp only[decide_eq_true_eq];omega),decide_eq_false O]) (And.intro (λh=>by cases h) (λ_=> ?_))
      |refine tk ?_
      |refine mF i O O λrest=> ?_
      |refine CA ?_|refine an ?_ ?_|(intro Z;try simp at Z))
     exact⟨⟨i+1,fA⟩,[],show o.FA.length- (i+1)<o.FA.length-i by omega,eN eF NF⟩
    ·have Be:=h.EA
     repeat' (first
      |refine AD (t:=76) false rfl eA (And.intro (λh=>by cases h) (λ_=> ?_))
      |refine AD (t:=91) false rfl eA (And.intro (λh=>by cases h) (λ_=> ?_))
      |refine tk ?_
      |refine CA ?_|refine an ?_ ?_|(intro Z;try simp at Z))
     exact DB rfl UA
end En
end Go.Proofs.YtkidgehblodbcaaGreatDoor
