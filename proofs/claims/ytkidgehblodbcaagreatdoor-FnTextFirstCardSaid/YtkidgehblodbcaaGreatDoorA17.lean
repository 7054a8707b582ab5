/- A part of the proof of FnTextFirst: which rules are asked, walked. -/
import Derived.WideKeyRuns
import Derived.Test.YtkidgehblodbcaaGreatDoorA13
set_option linter.all false
set_option maxRecDepth 100000
set_option maxHeartbeats 16000000
namespace Go.Proofs.YtkidgehblodbcaaGreatDoor
namespace En
open Go.RowKit Go.Proofs.Tryz
def XL (J:MA) (g:Int->Int) (n j:Nat):List Bool:=(List.range n).map λ(x:Nat)=>qE J g j (x:Int)
theorem vR (J:MA) (g:Int->Int) (n j:Nat):(XL J g n j).length=n:=by simp[XL]
theorem Nq (J:MA) (g:Int->Int) (j:Nat) (x:Int):qE J g (j+1) x=(qE J g j x||(CM J (TD J j)&&g (TD J j)==x)):=by
 unfold qE;rw[List.range_succ,List.any_append];simp
theorem ze {J:MA} {g:Int->Int} {n j:Nat} (h:CM J (TD J j)=false):XL J g n (j+1)=XL J g n j:=by
 unfold XL;refine List.map_congr_left λx _=> ?_
 rw[Nq,h];simp
theorem Af {J:MA} {g:Int->Int} {n j:Nat} (h:CM J (TD J j)=true) (h0:0<=g (TD J j)/\g (TD J j)<n):(XL J g n j).set (0+(g (TD J j)).toNat*1) true=XL J g n (j+1):=by
 refine List.ext_getElem? λi=> ?_
 rw[List.getElem?_set]
 unfold XL
 simp only[List.length_map,List.length_range,List.getElem?_map]
 by_cases hi:i<n
 ·rw[List.getElem?_range hi]
  simp only[Option.map_some]
  rw[Nq,h]
  by_cases e:0+(g (TD J j)).toNat*1=i
  ·rw[if_pos e,if_pos O]
   have:(g (TD J j)==(i:Int))=true:=by simp;omega
   rw[this];simp
  ·rw[if_neg e]
   have:(g (TD J j)==(i:Int))=false:=by simp;omega
   rw[this];simp
 ·have e1:(List.range n)[i]? =none:=List.getElem?_eq_none eA
  rw[e1,if_neg O];rfl
theorem Bf {J:MA} {g:Int->Int} {n j:Nat} {x:Int} (h:0<=x/\x<n):(XL J g n j).getD (0+x.toNat*1) false=qE J g j x:=by
 unfold XL
 rw[List.getD_eq_getElem?_getD,List.getElem?_map,List.getElem?_range O]
 simp only[Option.map_some,Option.getD_some]
 congr 1;omega
theorem Oq {J:MA} {t:Int} {kk:Nat} (hk:J.BA=4+(kk:Int)):
  (if(if(!CC J.SA (t*tC J.BA/3600))=true then true else(if decide ((kk:Int)>0)=true then !CC J.PA (t*tC J.BA/60%60)else false))=true then true else(if decide ((kk:Int)>1)=true then !CC J.RA (t*tC J.BA%60)else false))= !CM J t:=by
 have e1:decide ((kk:Int)>0)=decide (4<J.BA):=decide_eq_decide.2 O
 have e2:decide ((kk:Int)>1)=decide (5<J.BA):=decide_eq_decide.2 O
 rw[e1,e2]
 unfold CM WH BH yH
 cases CC J.SA (t*tC J.BA/3600)<;>cases CC J.PA (t*tC J.BA/60%60)<;>cases CC J.RA (t*tC J.BA%60)<;>cases decide (4<J.BA)<;>cases decide (5<J.BA)<;>rfl
abbrev vZ (kk:Nat) (J:MA):FS:=[(1, .u (.p 10 0)),(3, .u (.s 11 0 3)),(4, .u (I kk)),(5, .u (I (DE J))),(7, .u (I (tC J.BA))),(9, .u (.p 12 0)),(10, .u (.p 13 0)),(11, .u (.p 14 0))]
abbrev wZ (J:MA) (j:Nat):HS:=jB 0 J++[(10,some (.st (EC 0 J))),(11,some (.X 1 3 (A [24,1440,86400]))),(12,some (.st (QG (XL J (WH J) 24 j)))),(13,some (.st (QG (XL J (BH J) 60 j)))),(14,some (.st (QG (XL J (yH J) 60 j))))]
theorem HN {LA:Nat->Nat} {H H':HS} (h:lC LA H H':=by repeat' (first|exact trivial|refine And.intro (bN rfl rfl) ?_|refine And.intro (gA rfl rfl) ?_|refine And.intro (TB rfl (by first|rfl|(simp[DA.cells];done)|(simp[DA.cells];rfl))) ?_|refine And.intro rfl ?_)):lC LA H H':=h
def Pq (kk:Nat) (J:MA):MB {p:Nat×Nat//Nat.gcd p.1 p.2=DE J/\p.1<=100000/\p.2<=100000}where
 F p:=[(1, .u (.p 10 0)),(3, .u (.s 11 0 3)),(4, .u (I kk)),(5, .u (I p.1.1)),(6, .u (I p.1.2))]
 H p:=jB 0 J++[(10,some (.st (EC 0 J))),(11,some (.X 1 3 (A [24,1440,86400])))]
 n _:=12
def Qq (kk:Nat) (J:MA):MB {j:Nat//j<=xC J}where
 F j:=vZ kk J++[(12, .u (.fn (.func 55) [] [])),(13, .u (I (TD J j.1)))]
 H j:=wZ J j.1
 n _:=15
def Rq (kk:Nat) (J:MA):MB {i:Nat//i<=J.SA.length/\(J.SA.take i).all (qE J (WH J) (xC J))=true}where
 F i:=vZ kk J++[(114, .u (.s 6 0 J.SA.length)),(115, .u (I J.SA.length)),(116, .u (I i.1))]
 H i:=wZ J (xC J)
 n _:=15
def Sq (kk:Nat) (J:MA):MB {i:Nat//i<=J.PA.length/\((J.PA.take i).all λx=> !decide (4<J.BA)||qE J (BH J) (xC J) x)=true}where
 F i:=vZ kk J++[(126, .u (.s 7 0 J.PA.length)),(127, .u (I J.PA.length)),(128, .u (I i.1))]
 H i:=wZ J (xC J)
 n _:=15
def Tq (kk:Nat) (J:MA):MB {i:Nat//i<=J.RA.length/\((J.RA.take i).all λx=> !decide (5<J.BA)||qE J (yH J) (xC J) x)=true}where
 F i:=vZ kk J++[(142, .u (.s 8 0 J.RA.length)),(143, .u (I J.RA.length)),(144, .u (I i.1))]
 H i:=wZ J (xC J)
 n _:=15
theorem RU {l:List Int} {p:Int->Bool} {i:Nat} (hi:i<l.length) (h:(l.take i).all p=true) (h2:p (l.getD i 0)=true):(l.take (i+1)).all p=true:=by
 rw[List.take_succ_eq_append_getElem hi,List.all_append,h]
 rw[List.getD_eq_getElem?_getD,List.getElem?_eq_getElem hi]at h2
 simpa using h2
theorem SU {l:List Int} {p:Int->Bool} {i:Nat} (hi:i<l.length) (h2:p (l.getD i 0)=false):l.all p=false:=by
 rw[<-Bool.not_eq_true]
 intro h
 have:=List.all_eq_true.1 h _ (rK hi)
 rw[h2]at this;cases this
theorem b8 (J:MA) (hc:J.Clean) (hn:0<=J.BA):Fn prog 29 [.agg (EC 0 J)] (jB 0 J++[]) 10 (B (DN J)) [] 10:=by
 have cb:=BP hc hn
 have IC:=cb.st
 have hit:=cb.EA
 have xH:=hc.BA
 have YL:=cb.ln
 obtain⟨b,bE⟩:∃b,b=DN J:=⟨_,rfl⟩
 rw[<-bE]
 refine fm (KA 45756252146376978973568152201604429037836173311) func29 λw W G g=> ?_
 by_cases h4:J.BA<4
 ·have e:b=true:=by rw[bE];unfold DN;rw[decide_eq_true h4];rfl
  subst e
  repeat' (first
   |refine cT 27 rfl eA ?_
   |refine tk ?_
   |refine CA ?_|refine an ?_ ?_|(intro Z;try simp at Z))
  exact DB rfl qA
 ·obtain⟨kk,hk,PG⟩:∃kk:Nat,J.BA=4+(kk:Int)/\kk<=2:=⟨(J.BA-4).toNat,O,O⟩
  have wW:IntKind.u8.wrap (J.BA-4)=(kk:Int):=by rw[hk];rcases(by omega:kk=0\/kk=1\/kk=2)with rfl|rfl|rfl<;>rfl
  have hU:[(24:Int),1440,86400].getD kk 0=(MD J.BA:Int):=by unfold MD;rw[hk];rcases(by omega:kk=0\/kk=1\/kk=2)with rfl|rfl|rfl<;>rfl
  have P5:(24:Int)<=(MD J.BA:Int)/\(MD J.BA:Int)<=86400:=by rw[<-hU];rcases(by omega:kk=0\/kk=1\/kk=2)with rfl|rfl|rfl<;>decide
  have NH:(1:Int)<=tC J.BA/\tC J.BA<=3600:=by unfold tC;(repeat' split)<;>omega
  have hdiv:(86400:Int).tdiv (MD J.BA:Int)=tC J.BA:=by unfold MD tC;rw[hk];rcases(by omega:kk=0\/kk=1\/kk=2)with rfl|rfl|rfl<;>rfl
  have e8:(MD J.BA:Int)*tC J.BA=86400:=by unfold MD tC;rw[hk];rcases(by omega:kk=0\/kk=1\/kk=2)with rfl|rfl|rfl<;>rfl
  have j8:(J.GA%86400).tdiv (tC J.BA)=AH J:=Int.tdiv_eq_ediv_of_nonneg O
  have LZ:0<=AH J/\AH J<=86400:=⟨Int.ediv_nonneg O O,Int.le_trans (Int.ediv_le_self _ O) O⟩
  have ha1:0<DE J:=Nat.gcd_pos_of_pos_right _ O
  have ha2:DE J<=MD J.BA:=Nat.le_of_dvd O (Nat.gcd_dvd_right _ _)
  have hN:(xC J:Int)*(DE J:Int)=(MD J.BA:Int):=by
   have:xC J*DE J=MD J.BA:=by unfold xC;rw[Nat.mul_comm];exact Nat.mul_div_cancel' (Nat.gcd_dvd_right _ _)
   rw[<-Int.natCast_mul,this]
  have r1:0<=AH J%(DE J:Int):=Int.emod_nonneg _ O
  have r2:AH J%(DE J:Int)<(DE J:Int):=Int.emod_lt_of_pos _ O
  have eW:(J.AA.IA.toNat:Int)=if(1:Int)<J.IA then J.IA else 1:=by
   show(((if J.IA>1 then J.IA else 1).toNat:Nat):Int)=_
   split<;>omega
  repeat' (first
   |refine cF 27 rfl eA ?_
   |refine FG 5 ?_
   |refine tk ?_
   |refine CA ?_|refine an ?_ ?_|(intro Z;try simp at Z))
  refine Stop.mk ?_
  refine mB (l:=[]) (F':=[(1, .u (.p 10 0)),(3, .u (.s 11 0 3)),(4, .u (I kk))]) (H':=jB 0 J++[(10,some (.st (EC 0 J))),(11,some (.X 1 3 (A [24,1440,86400])))]) (n':=12) ?_ ?_
  ·exact eN ⟨rfl,rfl,bB wW,U⟩ qB
  have k8:∀j,j<xC J->0<=TD J j/\TD J j<(MD J.BA:Int)/\0<=TD J j*tC J.BA/\TD J j*tC J.BA<86400:=λj hj=>by
   have D:((j+1:Nat):Int)*(DE J:Int)<=(xC J:Int)*(DE J:Int):=Int.mul_le_mul_of_nonneg_right O O
   rw[Int.natCast_add,Int.add_mul,hN]at D
   have h0:0<=(j:Int)*(DE J:Int):=Int.mul_nonneg O O
   have h2:0<=TD J j/\TD J j+1<=(MD J.BA:Int):=by unfold TD;simp at D;omega
   have h3:=Int.mul_nonneg h2.1 (show 0<=tC J.BA by omega)
   have h4:(TD J j+1)*tC J.BA<=(MD J.BA:Int)*tC J.BA:=Int.mul_le_mul_of_nonneg_right h2.2 O
   rw[Int.add_mul,e8]at h4
   omega
  have tN:(MD J.BA:Int)<=TD J (xC J)/\TD J (xC J)<=200000:=by unfold TD;rw[hN];omega
  repeat' (first
   |refine tk ?_
   |refine And.intro (λ_=>by omega) ?_
   |refine XD kk O (by show kk<3;omega) hU ?_
   |refine CA ?_|refine an ?_ ?_|(intro Z;try simp at Z))
  refine FB (Pq kk J) (λp=>p.1.2) ?_ ?_
  ·refine⟨⟨(J.AA.IA.toNat,MD J.BA),rfl,by have:=eW;show J.AA.IA.toNat<=100000;split at this<;>omega,by show MD J.BA<=100000;omega⟩,[],U,eN ⟨rfl,rfl,rfl,bB ?_,rfl,U⟩ qB⟩
   rw[eW]
  ·rintro⟨⟨a,b'⟩,hg,xW,yW⟩
   intro F H Y hF hH hn;dsimp only[Pq]at hF hH hn;subst hF hH hn
   dsimp only at hg xW yW
   by_cases jD:0<b'
   ·skip
    repeat' (first
     |refine cT 40 rfl eA ?_
     |refine tk ?_
     |refine CA ?_|refine an ?_ ?_|(intro Z;try simp at Z))
    refine⟨⟨(b',a%b'),?_,yW,Nat.le_trans (Nat.mod_le _ _) xW⟩,[],Nat.mod_lt _ jD,eN ⟨rfl,rfl,rfl,rfl,bB (Int.natCast_emod a b').symm,U⟩ qB⟩
    show Nat.gcd b' (a%b')=DE J
    rw[<-hg,Nat.gcd_comm b',Nat.gcd_comm a,Nat.gcd_rec b' a]
   ·have lH:b'=0:=O
    subst lH
    have ea:a=DE J:=by rw[<-hg];simp
    subst ea
    repeat' (first
     |refine cF 40 rfl (by simp) ?_
     |refine FG 13 ?_
     |refine tk ?_
     |refine And.intro (λ_=>by omega) ?_
     |refine XD kk O (by show kk<3;omega) hU ?_
     |refine⟨tC J.BA,λ_=>⟨O,hdiv,by unfold zA;omega⟩,?_⟩
     |refine⟨AH J,λ_=>⟨O,j8,by unfold zA;omega⟩,?_⟩
     |refine CA ?_|refine an ?_ ?_|(intro Z;try simp at Z))
    refine Stop.mk ?_
    refine tY 12 rfl ?_
    repeat' (first
     |refine tk ?_
     |refine CA ?_|refine an ?_ ?_|(intro Z;try simp at Z))
    refine FB (Qq kk J) (λj=>xC J-j.1) ?_ ?_
    ·refine⟨⟨0,Nat.zero_le _⟩,[],U,eN ⟨rfl,rfl,rfl,rfl,rfl,rfl,rfl,rfl,rfl,bB (by unfold TD;simp),U⟩ ⟨HA,HA,HA,HA,HA,HA,HA,HA,HA,HA,rfl,gA rfl rfl,bN rfl rfl,bN rfl rfl,bN rfl rfl,U⟩⟩
    ·rintro⟨j,hj⟩
     intro F H Y hF hH hn;dsimp only[Qq]at hF hH hn;subst hF hH hn
     by_cases vB:j<xC J
     ·have hm:=k8 j vB
      have Uq:TD J (j+1)=TD J j+(DE J:Int):=by unfold TD;rw[Int.natCast_add,Int.add_mul];simp;omega
      have h0:0<=WH J (TD J j)/\WH J (TD J j)<24:=by unfold WH;omega
      have D:0<=BH J (TD J j)/\BH J (TD J j)<60:=by unfold BH;omega
      have h2:0<=yH J (TD J j)/\yH J (TD J j)<60:=by unfold yH;omega
      rcases Bool.eq_false_or_eq_true (CM J (TD J j))with hp|hp
      ·skip
       repeat' (first
        |refine cT 63 rfl eA ?_
        |refine cF 106 rfl (by rw[Oq hk,hp];rfl) ?_
        |refine tk ?_
        |refine And.intro (λ_=>h0) ?_
        |refine And.intro (λ_=>D) ?_
        |refine And.intro (λ_=>h2) ?_
        |refine O1 (by rw[vR];have h0:=h0;have D:=D;have h2:=h2;unfold WH at h0;unfold BH at D;unfold yH at h2;omega) ?_
        |refine And.intro (λ_=>by omega) ?_
        |refine XD kk O (by show kk<3;omega) hU ?_
        |(refine WC 55 (.s 6 0 _::_) ?_;refine cA.R [6] func55 rfl rfl (λ_=>sT J.SA _ O) rfl rfl rfl BC rfl ?_)
        |(refine WC 55 (.s 7 0 _::_) ?_;refine cA.R [7] func55 rfl rfl (λ_=>sT J.PA _ O) rfl rfl rfl BC rfl ?_)
        |(refine WC 55 (.s 8 0 _::_) ?_;refine cA.R [8] func55 rfl rfl (λ_=>sT J.RA _ O) rfl rfl rfl BC rfl ?_)
        |refine CA ?_|refine an ?_ ?_|(intro Z;try simp at Z))
       refine⟨⟨j+1,vB⟩,[],show xC J- (j+1)<xC J-j by omega,eN ⟨rfl,rfl,rfl,rfl,rfl,rfl,rfl,rfl,rfl,bB Uq.symm,U⟩ ⟨HA,HA,HA,HA,HA,HA,HA,HA,HA,HA,rfl,gA rfl rfl,bN rfl ?_,bN rfl ?_,bN rfl ?_,U⟩⟩
       ·exact congrArg QG (Af hp h0)
       ·exact congrArg QG (Af hp D)
       ·exact congrArg QG (Af hp h2)
      ·skip
       repeat' (first
        |refine cT 63 rfl eA ?_
        |refine cT 106 rfl (by rw[Oq hk,hp];rfl) ?_
        |refine tk ?_
        |refine And.intro (λ_=>by omega) ?_
        |refine XD kk O (by show kk<3;omega) hU ?_
        |(refine WC 55 (.s 6 0 _::_) ?_;refine cA.R [6] func55 rfl rfl (λ_=>sT J.SA _ O) rfl rfl rfl BC rfl ?_)
        |(refine WC 55 (.s 7 0 _::_) ?_;refine cA.R [7] func55 rfl rfl (λ_=>sT J.PA _ O) rfl rfl rfl BC rfl ?_)
        |(refine WC 55 (.s 8 0 _::_) ?_;refine cA.R [8] func55 rfl rfl (λ_=>sT J.RA _ O) rfl rfl rfl BC rfl ?_)
        |refine CA ?_|refine an ?_ ?_|(intro Z;try simp at Z))
       exact⟨⟨j+1,vB⟩,[],show xC J- (j+1)<xC J-j by omega,eN ⟨rfl,rfl,rfl,rfl,rfl,rfl,rfl,rfl,rfl,bB Uq.symm,U⟩ ⟨HA,HA,HA,HA,HA,HA,HA,HA,HA,HA,rfl,gA rfl rfl,bN rfl (by rw[ze hp]),bN rfl (by rw[ze hp]),bN rfl (by rw[ze hp]),U⟩⟩
     ·have hq:j=xC J:=O
      subst hq
      repeat' (first
       |refine cF 63 rfl eA ?_
       |refine tk ?_
       |refine And.intro (λ_=>by omega) ?_
       |refine XD kk O (by show kk<3;omega) hU ?_
       |refine CA ?_|refine an ?_ ?_|(intro Z;try simp at Z))
      refine FB (Rq kk J) (λi=>J.SA.length-i.1) ?_ ?_
      ·exact⟨⟨0,Nat.zero_le _,rfl⟩,[],U,eN eF HN⟩
      ·rintro⟨i,hi,vD⟩
       intro F H Y hF hH hn;dsimp only[Rq]at hF hH hn;subst hF hH hn
       by_cases vC:i<J.SA.length
       ·have hv:=SH hc.SA (rK vC)
        obtain⟨v,lE⟩:∃v,J.SA.getD i 0=v:=⟨_,rfl⟩
        rw[lE]at hv
        have hg:=Bf (J:=J) (g:=WH J) (n:=24) (j:=xC J) (x:=v) O
        rcases Bool.eq_false_or_eq_true (qE J (WH J) (xC J) v)with hq|hq
        ·have zW:qE J (WH J) (xC J) v=true:=by exact hq
         repeat' (first
          |refine cT 117 rfl eA ?_
          |refine cF 123 rfl (by rw[hg,hq];rfl) ?_
          |refine tk ?_
          |refine XD i O O lE ?_
          |refine And.intro (λ_=>by omega) ?_
          |refine rT (by rw[vR];omega) ?_
          |refine CA ?_|refine an ?_ ?_|(intro Z;try simp at Z))
         exact⟨⟨i+1,vC,RU vC vD (by rw[lE];exact zW)⟩,[],show J.SA.length- (i+1)<J.SA.length-i by omega,eN eF HN⟩
        ·have yO:qE J (WH J) (xC J) v=false:=by exact hq
         have qC:=SU (p:=qE J (WH J) (xC J)) vC (by rw[lE];exact yO)
         have e:b=false:=by rw[bE];unfold DN;rw[decide_eq_false h4,Bool.false_or,qC];simp
         subst e
         repeat' (first
          |refine cT 117 rfl eA ?_
          |refine cT 123 rfl (by rw[hg,hq];rfl) ?_
          |refine tk ?_
          |refine XD i O O lE ?_
          |refine And.intro (λ_=>by omega) ?_
          |refine rT (by rw[vR];omega) ?_
          |refine CA ?_|refine an ?_ ?_|(intro Z;try simp at Z))
         exact DB rfl UA
       ·have hq:i=J.SA.length:=O
        subst hq
        rw[List.take_length]at vD
        have o8:=vD
        repeat' (first
         |refine cF 117 rfl (by simp) ?_
         |refine tk ?_
         |refine CA ?_|refine an ?_ ?_|(intro Z;try simp at Z))
        refine FB (Sq kk J) (λi=>J.PA.length-i.1) ?_ ?_
        ·exact⟨⟨0,Nat.zero_le _,rfl⟩,[],U,eN eF HN⟩
        ·rintro⟨i,hi,vD⟩
         intro F H Y hF hH hn;dsimp only[Sq]at hF hH hn;subst hF hH hn
         by_cases vC:i<J.PA.length
         ·have hv:=SH hc.PA (rK vC)
          obtain⟨v,lE⟩:∃v,J.PA.getD i 0=v:=⟨_,rfl⟩
          rw[lE]at hv
          have hg:=Bf (J:=J) (g:=BH J) (n:=60) (j:=xC J) (x:=v) O
          have IN:decide ((kk:Int)>0)=decide (4<J.BA):=decide_eq_decide.2 O
          rcases Bool.eq_false_or_eq_true (if decide ((kk:Int)>0)=true then !qE J (BH J) (xC J) v else false)with hq|hq
          ·have yO:(λx=> !decide (4<J.BA)||qE J (BH J) (xC J) x) v=false:=by rw[IN]at hq;dsimp only;revert hq;cases decide (4<J.BA)<;>cases qE J (BH J) (xC J) v<;>simp
           have qC:=SU (p:=(λx=> !decide (4<J.BA)||qE J (BH J) (xC J) x)) vC (by rw[lE];exact yO)
           have e:b=false:=by rw[bE];unfold DN;rw[decide_eq_false h4,Bool.false_or,qC];simp
           subst e
           repeat' (first
            |refine cT 129 rfl eA ?_
            |refine cT 139 rfl (by rw[hg];exact hq) ?_
            |refine tk ?_
            |refine XD i O O lE ?_
            |refine And.intro (λ_=>by omega) ?_
            |refine rT (by rw[vR];omega) ?_
            |refine CA ?_|refine an ?_ ?_|(intro Z;try simp at Z))
           exact DB rfl UA
          ·have zW:(λx=> !decide (4<J.BA)||qE J (BH J) (xC J) x) v=true:=by rw[IN]at hq;dsimp only;revert hq;cases decide (4<J.BA)<;>cases qE J (BH J) (xC J) v<;>simp
           repeat' (first
            |refine cT 129 rfl eA ?_
            |refine cF 139 rfl (by rw[hg];exact hq) ?_
            |refine tk ?_
            |refine XD i O O lE ?_
            |refine And.intro (λ_=>by omega) ?_
            |refine rT (by rw[vR];omega) ?_
            |refine CA ?_|refine an ?_ ?_|(intro Z;try simp at Z))
           exact⟨⟨i+1,vC,RU vC vD (by rw[lE];exact zW)⟩,[],show J.PA.length- (i+1)<J.PA.length-i by omega,eN eF HN⟩
         ·have hq:i=J.PA.length:=O
          subst hq
          rw[List.take_length]at vD
          have r8:=vD
          repeat' (first
           |refine cF 129 rfl (by simp) ?_
           |refine tk ?_
           |refine CA ?_|refine an ?_ ?_|(intro Z;try simp at Z))
          refine FB (Tq kk J) (λi=>J.RA.length-i.1) ?_ ?_
          ·exact⟨⟨0,Nat.zero_le _,rfl⟩,[],U,eN eF HN⟩
          ·rintro⟨i,hi,vD⟩
           intro F H Y hF hH hn;dsimp only[Tq]at hF hH hn;subst hF hH hn
           by_cases vC:i<J.RA.length
           ·have hv:=SH hc.RA (rK vC)
            obtain⟨v,lE⟩:∃v,J.RA.getD i 0=v:=⟨_,rfl⟩
            rw[lE]at hv
            have hg:=Bf (J:=J) (g:=yH J) (n:=60) (j:=xC J) (x:=v) O
            have IN:decide ((kk:Int)>1)=decide (5<J.BA):=decide_eq_decide.2 O
            rcases Bool.eq_false_or_eq_true (if decide ((kk:Int)>1)=true then !qE J (yH J) (xC J) v else false)with hq|hq
            ·have yO:(λx=> !decide (5<J.BA)||qE J (yH J) (xC J) x) v=false:=by rw[IN]at hq;dsimp only;revert hq;cases decide (5<J.BA)<;>cases qE J (yH J) (xC J) v<;>simp
             have qC:=SU (p:=(λx=> !decide (5<J.BA)||qE J (yH J) (xC J) x)) vC (by rw[lE];exact yO)
             have e:b=false:=by rw[bE];unfold DN;rw[decide_eq_false h4,Bool.false_or,qC];simp
             subst e
             repeat' (first
              |refine cT 145 rfl eA ?_
              |refine cT 155 rfl (by rw[hg];exact hq) ?_
              |refine tk ?_
              |refine XD i O O lE ?_
              |refine And.intro (λ_=>by omega) ?_
              |refine rT (by rw[vR];omega) ?_
              |refine CA ?_|refine an ?_ ?_|(intro Z;try simp at Z))
             exact DB rfl UA
            ·have zW:(λx=> !decide (5<J.BA)||qE J (yH J) (xC J) x) v=true:=by rw[IN]at hq;dsimp only;revert hq;cases decide (5<J.BA)<;>cases qE J (yH J) (xC J) v<;>simp
             repeat' (first
              |refine cT 145 rfl eA ?_
              |refine cF 155 rfl (by rw[hg];exact hq) ?_
              |refine tk ?_
              |refine XD i O O lE ?_
              |refine And.intro (λ_=>by omega) ?_
              |refine rT (by rw[vR];omega) ?_
              |refine CA ?_|refine an ?_ ?_|(intro Z;try simp at Z))
             exact⟨⟨i+1,vC,RU vC vD (by rw[lE];exact zW)⟩,[],show J.RA.length- (i+1)<J.RA.length-i by omega,eN eF HN⟩
           ·have hq:i=J.RA.length:=O
            subst hq
            rw[List.take_length]at vD
            have v8:=vD
            repeat' (first
             |refine cF 145 rfl (by simp) ?_
             |refine tk ?_
             |refine CA ?_|refine an ?_ ?_|(intro Z;try simp at Z))
            have e:b=true:=by rw[bE];unfold DN;rw[decide_eq_false h4,Bool.false_or,o8,r8,v8];rfl
            subst e
            exact DB rfl UA
theorem w8 {l:List (Int×Int)} {i:Nat} (h:i<l.length):vO (l.take (i+1))=vO (l.take i)+(if((l.getD i (0,0)).2 !=0)=true then 1 else 0):=by
 unfold vO
 rw[List.take_succ_eq_append_getElem h,List.countP_append,List.getD_eq_getElem?_getD,List.getElem?_eq_getElem h]
 simp[List.countP_cons]
theorem x8 (l:List (Int×Int)):vO l<=l.length:=List.countP_le_length
def Vq (J:MA):MB {i:Nat//i<=J.FA.length}where
 F i:=[(1, .u (.p 10 0)),(3, .u (I (vO (J.FA.take i.1)))),(16, .u (.s 5 0 J.FA.length)),(17, .u (I J.FA.length)),(18, .u (I i.1))]
 H i:=jB 0 J++[(10,some (.st (EC 0 J)))]
 n _:=11
theorem z8 (J:MA) (hc:J.Clean) (hn:0<=J.BA):Fn prog 13 [.agg (EC 0 J)] (jB 0 J++[]) 10 (B (FU J)) [] 10:=by
 have cb:=BP hc hn
 have IC:=cb.st
 have hit:=cb.EA
 have xH:=hc.BA
 have YL:=cb.ln
 have oE:=hc.HB
 have Wq:=b8 J hc hn
 obtain⟨p1,e1⟩:∃p,p=(J.CE&&decide (J.xB<J.GA)):=⟨_,rfl⟩
 obtain⟨p2,e2⟩:∃p,p=(decide (J.BA<=1)&&decide (0<vO J.FA)&&decide (vO J.FA<J.FA.length)):=⟨_,rfl⟩
 obtain⟨p3,e3⟩:∃p,p=(J.sA.contains (-52)&&(J.sA.contains 52||J.sA.contains 53||J.sA.contains (-53))):=⟨_,rfl⟩
 obtain⟨p4,e4⟩:∃p,p=(decide (J.BA=2)&&decide (0<J.OB.length)&&decide (J.GA/86400%7≠J.HB)):=⟨_,rfl⟩
 obtain⟨p5,e5⟩:∃p,p=(decide (4<=J.BA)&&(decide (0<J.OB.length+J.VA.length+J.TA.length+J.LB.length)||decide (24<J.IA))):=⟨_,rfl⟩
 obtain⟨p6,e6⟩:∃p,p=DN J:=⟨_,rfl⟩
 have Z:FU J=(p1||p2||p3||p4||p5|| !p6):=by rw[e1,e2,e3,e4,e5,e6];rfl
 rw[Z]
 rw[<-e6]at Wq
 clear Z
 refine fm (KA 10141204952942139126753616937007) func13 λw W G g=> ?_
 repeat' (first
  |refine AD (t:=14) p1 rfl (by rw[e1];cases J.CE<;>rfl) (And.intro (λD=> ?_) (λD=> ?_))
  |refine tk ?_
  |refine CA ?_|refine an ?_ ?_|(intro Z;try simp at Z))
 ·subst D;exact DB rfl UA
 ·subst D
  refine FB (Vq J) (λi=>J.FA.length-i.1) ?_ ?_
  ·exact⟨⟨0,Nat.zero_le _⟩,[],U,eN eF HN⟩
  ·rintro⟨i,hi⟩
   intro F H Y hF hH hn;dsimp only[Vq]at hF hH hn;subst hF hH hn
   have hle:=x8 (J.FA.take i)
   rw[List.length_take]at hle
   by_cases fA:i<J.FA.length
   ·have hs:=w8 fA
    rcases Bool.eq_false_or_eq_true ((J.FA.getD i (0,0)).2 !=0)with hz|hz
    ·rw[hz,if_pos rfl]at hs
     repeat' (first
      |refine cT 19 rfl eA ?_
      |refine cT 24 rfl hz ?_
      |refine tk ?_
      |refine mF i O O λrest=> ?_
      |refine CA ?_|refine an ?_ ?_|(intro Z;try simp at Z))
     exact⟨⟨i+1,fA⟩,[],show J.FA.length- (i+1)<J.FA.length-i by omega,eN ⟨rfl,bB (by rw[hs];simp),rfl,rfl,rfl,U⟩ HN⟩
    ·rw[hz,if_neg (by decide)]at hs
     repeat' (first
      |refine cT 19 rfl eA ?_
      |refine cF 24 rfl hz ?_
      |refine tk ?_
      |refine mF i O O λrest=> ?_
      |refine CA ?_|refine an ?_ ?_|(intro Z;try simp at Z))
     exact⟨⟨i+1,fA⟩,[],show J.FA.length- (i+1)<J.FA.length-i by omega,eN ⟨rfl,bB (by rw[hs];simp),rfl,rfl,rfl,U⟩ HN⟩
   ·have hq:i=J.FA.length:=O
    subst hq
    rw[List.take_length]
    repeat' (first
     |refine cF 19 rfl (by simp) ?_
     |refine AD (t:=41) p2 rfl (by rw[e2,Bool.eq_iff_iff];simp) (And.intro (λh2=> ?_) (λh2=> ?_))
     |refine AD (t:=59) p3 rfl (by rw[e3];cases J.sA.contains (-52)<;>cases J.sA.contains 52<;>cases J.sA.contains 53<;>cases J.sA.contains (-53)<;>rfl) (And.intro (λh3=> ?_) (λh3=> ?_))
     |refine AD (t:=77) p4 rfl (by rw[e4,Bool.eq_iff_iff];simp) (And.intro (λh4=> ?_) (λh4=> ?_))
     |refine AD (t:=103) p5 rfl (by rw[e5,Bool.eq_iff_iff];simp;try omega) (And.intro (λh5=> ?_) (λh5=> ?_))
     |refine tk ?_
     |(refine WC 28 (.s 4 0 _::_) ?_;refine cA.R [4] func28 rfl rfl (λ_=>XN J.sA (-52) O) rfl rfl rfl BC rfl ?_)
     |(refine WC 28 (.s 4 0 _::_) ?_;refine cA.R [4] func28 rfl rfl (λ_=>XN J.sA 52 O) rfl rfl rfl BC rfl ?_)
     |(refine WC 28 (.s 4 0 _::_) ?_;refine cA.R [4] func28 rfl rfl (λ_=>XN J.sA 53 O) rfl rfl rfl BC rfl ?_)
     |(refine WC 28 (.s 4 0 _::_) ?_;refine cA.R [4] func28 rfl rfl (λ_=>XN J.sA (-53) O) rfl rfl rfl BC rfl ?_)
     |refine cr 29 [0,1,2,3,4,5,6,7,8,9] func29 (λ_=>Wq) (λ_=>ME O rfl rfl rfl rfl rfl rfl rfl rfl rfl rfl U) ?_
     |refine CA ?_|refine an ?_ ?_|(intro Z;try simp at Z))
    all_goals (first|subst h2|skip)
    all_goals (first|subst h3|skip)
    all_goals (first|subst h4|skip)
    all_goals (first|subst h5|skip)
    all_goals exact DB (by cases p6<;>rfl) UA
def FK (p:Int×Int):Value:= .agg #[.int .i64 p.1, .int .i64 p.2]
def ZH (ks:List (Int×Int)):List (Value×Value):=ks.map λk=>(FK k, .bool true)
theorem Pf (d:Nat) (a b:Int) (w:World):(Op.equalIn (d+1) 3 (.int .i64 a) (.int .i64 b)).run prog w= .ok (a==b) w:=by
 simp[Op.equalIn,run_underlying (P:=prog) (w:=w) underlying3]
theorem Q9 (p q:Int×Int) (w:World):(Op.equal 151 (FK p) (FK q)).run prog w= .ok (decide (p=q)) w:=by
 obtain⟨i,hi⟩:=info_of_underlying (P:=prog) underlying3
 have IG:prog.plainKey 3=true:=by kernel_rfl
 have NW:prog.cellsOf 3=1:=by kernel_rfl
 have h3:(Op.equal 151 (FK p) (FK q)).run prog w=(Op.eqItems 9999 3 (prog.cellsOf 3) #[.int .i64 p.1, .int .i64 p.2] #[.int .i64 q.1, .int .i64 q.2] (List.range 2)).run prog w:=
  run_equalIn_array (P:=prog) w 9999 (t:=151) (n:=2) #[.int .i64 p.1, .int .i64 p.2] #[.int .i64 q.1, .int .i64 q.2] underlying151 hi
 have p0:∀(a b:Int),(part 3 #[.int .i64 a, .int .i64 b] (0*1)).run prog w= .ok (.int .i64 a) w:=λa b=>run_part_plain w IG rfl
 have p1:∀(a b:Int),(part 3 #[.int .i64 a, .int .i64 b] (1*1)).run prog w= .ok (.int .i64 b) w:=λa b=>run_part_plain w IG rfl
 rw[h3,show List.range 2=[0,1]from rfl,NW]
 simp only[Op.eqItems,Sem.run_bind,p0,p1,Result.andThen_ok,Pf 9998]
 obtain⟨a,b⟩:=p
 obtain⟨c,d⟩:=q
 by_cases D:a=c
 ·subst D
  by_cases h2:b=d
  ·subst h2;simp[p1,Pf 9998]
  ·have:(b==d)=false:=by simpa using h2
   simp[p1,Pf 9998,h2,this]
 ·have:(a==c)=false:=by simpa using D
  simp[this,D]
theorem wq (x:Int×Int) (w:World):∀(ks:List (Int×Int)) (es:List MapEntry) (i:Nat),es.map (λe=>(e.key,e.val))=ZH ks->
  (Instr.findAsking 151 (FK x) es i).run prog w= .ok (if x∈ks then some (i+ks.idxOf x, .bool true)else none) w
 |[],es,i,h=>by
  have:es=[]:=by simpa [ZH]using h
  subst this;rfl
 |k::ks,[],i,h=>by simp[ZH]at h
 |k::ks,e::es,i,h=>by
  simp only[ZH,List.map_cons,List.cons.injEq,Prod.mk.injEq]at h
  obtain⟨⟨D,h2⟩,h3⟩:=h
  unfold Instr.findAsking
  simp only[Sem.run_bind,D,Q9,Result.andThen_ok]
  by_cases hx:x=k
  ·subst hx
   simp[h2]
  ·have:=wq x w ks es (i+1) h3
   rw[decide_eq_false hx,if_neg (by decide),this]
   by_cases hm:x∈ks
   ·rw[if_pos hm,if_pos (List.mem_cons_of_mem _ hm),List.idxOf_cons,show(k==x)=false by simpa using Ne.symm hx]
    simp;omega
   ·rw[if_neg hm,if_neg (by simp[hx,hm])]
theorem R9 (ks:List (Int×Int)):(EK (ZH ks)).map (λe=>(e.key,e.val))=ZH ks:=by
 unfold EK
 rw[List.map_map]
 refine List.ext_getElem? λi=> ?_
 simp only[List.getElem?_map,List.getElem?_zipIdx]
 cases (ZH ks)[i]? <;>simp
theorem xq (x:Int×Int) (ks:List (Int×Int)):NQ prog 151 (FK x) (ZH ks) (if x∈ks then some (ks.idxOf x, .bool true)else none):=by
 refine⟨λw b=> ?_,λw=> ?_⟩
 ·kernel_rfl
 ·rw[run_findKey_eq (P:=prog) w (k:=151) DD,wq x w ks _ 0 (R9 ks)]
  simp
def yq (n:Nat):MB {i:Nat//i<=n}where
 F i:=[(5, .u (.s 1 0 i.1)),(11, .u (I n)),(12, .u (I i.1))]
 H i:=[(1,some (.X 1 3 (A (eC 0 i.1))))]
 n _:=2
theorem Qf (n:Nat) (hn:n<=1000):Fn prog 106 [.s 0 0 0,I n] [(0,some (.ro (A [])))] 1 (.s 1 0 n) [(1,some (.X 1 3 (A (eC 0 n))))] 2:=by
 refine fm (KA 14963) func106 λw W G g=> ?_
 repeat' (first
  |refine FG 4 ?_
  |refine cF 9 rfl rfl ?_
  |refine tk ?_
  |refine CA ?_|refine an ?_ ?_|(intro Z;try simp at Z))
 refine Stop.mk ?_
 refine aG 5 1 3 rfl ?_
 repeat' (first
  |refine tk ?_
  |refine CA ?_|refine an ?_ ?_|(intro Z;try simp at Z))
 refine FB (yq n) (λi=>n-i.1) ?_ ?_
 ·exact⟨⟨0,Nat.zero_le _⟩,[],U,eN eF HN⟩
 ·rintro⟨i,hi⟩
  intro F H Y hF hH hn;dsimp only[yq]at hF hH hn;subst hF hH hn
  by_cases fA:i<n
  ·skip
   repeat' (first
    |refine cT 13 rfl eA ?_
    |refine tk ?_
    |refine⟨(by(try dsimp only);simp[JD];try omega),Nat.le_of_ble_eq_true rfl,O,λ_=>(by intro sv YC;have iB:sv∈[I (i:Int)]:=YC;simp at iB;subst iB;rfl),λ_=>(by show(_+1)*8<=140737488355328/\_+1<=maxLen;dsimp only[maxLen];omega),?_⟩
    |refine CA ?_|refine an ?_ ?_|(intro Z;try simp at Z))
   refine⟨⟨i+1,fA⟩,[(1,3)],show n- (i+1)<n-i by omega,eL [(1,3)] eF ⟨gA rfl ?_,U⟩⟩
   have h:=wN (l:=eC 0 i) (l':=eC 0 (i+1)) (v:=(i:Int)) (by rw[ql];simp)
   rw[yc]at h
   exact h
  ·have hq:i=n:=O
   subst hq
   repeat' (first
    |refine cF 13 rfl (by simp) ?_
    |refine tk ?_
    |refine CA ?_|refine an ?_ ?_|(intro Z;try simp at Z))
   exact⟨[],eN ⟨rfl,U⟩ HN⟩
theorem Rf (l:List Int) (n:Nat) (h:0<l.length):Fn prog 106 [.s 0 0 l.length,I n] [(0,some (.ro (A l)))] 1 (.s 0 0 l.length) [] 1:=by
 refine fm (KA 14963) func106 λw W G g=> ?_
 repeat' (first
  |refine cT 9 rfl eA ?_
  |refine tk ?_
  |refine CA ?_|refine an ?_ ?_|(intro Z;try simp at Z))
 exact⟨[],eN ⟨rfl,U⟩ U⟩
def KN (l:List Int) (n:Nat):List Int:=if l=[]then eC 0 n else l
def zD (J:MA):List Int:=KN J.SA 24
def TE (J:MA):List Int:=if 5<=J.BA then KN J.PA 60 else[0]
def LF (J:MA):List Int:=if J.BA=6 then KN J.RA 60 else[0]
def stM (J:MA):Int:=J.GA%86400/3600*3600+(if 5<=J.BA then J.GA%86400/60%60*60 else 0)+(if J.BA=6 then J.GA%86400%60 else 0)
def OQ (J:MA):Nat:=Nat.gcd ((if 1<J.IA then J.IA else 1)*tC J.BA).toNat 86400
def xN (ks:List (Int×Int)) (x:Int×Int):List (Int×Int):=if x∈ks then ks else ks++[x]
def zq (J:MA) (h m s:Int):Bool:=(h*3600+m*60+s-stM J).tmod (OQ J:Int)==0
def PQ (J:MA) (h m:Int) (ks:List (Int×Int)) (s:Int):List (Int×Int):=if zq J h m s=true then xN (xN (xN ks (0,h)) (1,m)) (2,s)else ks
def Ba (J:MA) (h:Int) (ks:List (Int×Int)) (m:Int):List (Int×Int):=(LF J).foldl (PQ J h m) ks
def Ca (J:MA) (ks:List (Int×Int)) (h:Int):List (Int×Int):=(TE J).foldl (Ba J h) ks
def mapM' (J:MA):List (Int×Int):=(zD J).foldl (Ca J) []
def JM (J:MA):Bool:=decide (J.BA<4)||decide (J.SA.length+J.PA.length+J.RA.length=0)||
 ((J.SA.all λn=>decide ((0,n)∈mapM' J))&&(J.PA.all λn=> !decide (5<=J.BA)||decide ((1,n)∈mapM' J))&&(J.RA.all λn=> !decide (6<=J.BA)||decide ((2,n)∈mapM' J)))
theorem Sf {PB:Type} {f:PB->Int->PB} {b:PB} {l:List Int} {i:Nat} (h:i<l.length):(l.take (i+1)).foldl f b=f ((l.take i).foldl f b) (l.getD i 0):=by
 rw[List.take_succ_eq_append_getElem h,List.foldl_append,List.getD_eq_getElem?_getD,List.getElem?_eq_getElem h];rfl
theorem Tf {l:List Int} {n:Nat} (h:l.length<=12) (hn:n<=60):(KN l n).length<=60:=by
 unfold KN;split
 ·rw[yc];omega
 ·omega
theorem Uf {l:List Int} {n:Nat} (h:∀x∈l,0<=x/\x<n):∀x∈KN l n,0<=x/\x<n:=by
 intro x hx
 unfold KN at hx
 split at hx
 ·unfold eC at hx
  obtain⟨i,hi,rfl⟩:=List.mem_map.1 hx
  have:=List.mem_range.1 hi
  omega
 ·exact h x hx
section
variable {C:Cx} {o:Oper} {F:FS} {H:HS} {Y:Nat} {c0:Bool}
theorem S9 {x y z:Operand} {b:Nat} {ks:List (Int×Int)} {k:Int×Int} (hP:C.P=prog) (ho:o.op= .mapUpdate 150 x y z) (hx:zB F c0 x λv=>v= .m b) (hy:zB F c0 y λv=>JE v=some (FK k)) (hz:zB F c0 z λv=>JE v=some (.bool true)) (Z:WA H b=some (.obj (YH (ZH ks)))):
  JB C.P C.w0 C.W C.N o F H Y c0 ⟨.v undef,[(b,some (.obj (YH (ZH (xN ks k)))))],Y,[b]⟩:=by
 have hk:=xq k ks
 by_cases hm:k∈ks
 ·rw[if_pos hm]at hk
  have hi:(ZH ks)[ks.idxOf k]? =some (FK k, .bool true):=by
   unfold ZH
   rw[List.getElem?_map,List.getElem?_eq_getElem (List.idxOf_lt_length_of_mem hm),List.getElem_idxOf];rfl
  have h:=O9 (C:=C) (H:=H) (Y:=Y) (t:=150) (kt:=151) (et:=4) (i:=ks.idxOf k) (es:=ZH ks) (kv:=FK k) (vv:= .bool true) (by rw[hP];exact underlying150) (λ_=>⟨by rw[hP];exact hk,hi,by obtain⟨a,b⟩:=k;simp[FK,Instr.sameBits]⟩) (.inr ho) hx hy hz Z
  unfold xN;rw[if_pos hm];exact h
 ·rw[if_neg hm]at hk
  have h:=FX (C:=C) (H:=H) (Y:=Y) (t:=150) (kt:=151) (et:=4) (es:=ZH ks) (kv:=FK k) (vv:= .bool true) (by rw[hP];exact underlying150) (λ_=>by rw[hP];exact hk) (.inr ho) hx hy hz Z
  have e:ZH (xN ks k)=ZH ks++[(FK k, .bool true)]:=by unfold xN;rw[if_neg hm];simp[ZH]
  rw[e];exact h
theorem VU {x y:Operand} {b:Nat} {ks:List (Int×Int)} {k:Int×Int} (hP:C.P=prog) (ho:o.op= .lookup 150 x y false) (hx:zB F c0 x λv=>v= .m b) (hy:zB F c0 y λv=>JE v=some (FK k)) (Z:WA H b=some (.obj (YH (ZH ks)))):
  JB C.P C.w0 C.W C.N o F H Y c0 ⟨B (decide (k∈ks)),[],Y,[b]⟩:=by
 have hk:=xq k ks
 have h:=look_ok (C:=C) (H:=H) (Y:=Y) (t:=150) (kt:=151) (et:=4) (ok:=false) (es:=ZH ks) (kv:=FK k) (z:= .bool false) (by rw[hP];exact underlying150) (λw=>by rw[hP];exact zeroValue4 w) (λ_=>by rw[hP];exact hk) ho hx hy Z
 by_cases hm:k∈ks
 ·rw[if_pos hm]at h;rw[decide_eq_true hm];exact h
 ·rw[if_neg hm]at h;rw[decide_eq_false hm];exact h
end
abbrev WU (J:MA):FS:=[(1, .u (.p 10 0)),(4, .u (.s 20 0 (zD J).length)),(5, .u (.s 21 0 (TE J).length)),(6, .u (.s 22 0 (LF J).length))]
abbrev XU (J:MA):HS:=jB 0 J++[(10,some (.st (EC 0 J))),(20,some (.ro (A (zD J)))),(21,some (.ro (A (TE J)))),(22,some (.ro (A (LF J))))]
def Ar (J:MA) (e:Int):MB {p:Nat×Nat//Nat.gcd p.1 p.2=OQ J/\p.1<=10000000/\p.2<=10000000}where
 F p:=WU J++[(8, .u (I e)),(9, .u (I p.1.1)),(10, .u (I p.1.2))]
 H _:=XU J
 n _:=23
abbrev Vf (J:MA):FS:=WU J++[(8, .u (I (stM J))),(9, .u (I (OQ J))),(11, .u (.m 23))]
abbrev GX (J:MA) (ks:List (Int×Int)):HS:=(23,some (.obj (YH (ZH ks))))::XU J
def Wf (J:MA):MB {i:Nat//i<=(zD J).length}where
 F i:=Vf J++[(83, .u (.s 20 0 (zD J).length)),(84, .u (I (zD J).length)),(85, .u (I i.1))]
 H i:=GX J (((zD J).take i.1).foldl (Ca J) [])
 n _:=24
def Xf (J:MA) (i:Nat) (ks:List (Int×Int)):MB {j:Nat//j<=(TE J).length}where
 F j:=Vf J++[(83, .u (.s 20 0 (zD J).length)),(84, .u (I (zD J).length)),(85, .u (I i)),(13, .u (I ((zD J).getD i 0))),(89, .u (.s 21 0 (TE J).length)),(90, .u (I (TE J).length)),(91, .u (I j.1))]
 H j:=GX J (((TE J).take j.1).foldl (Ba J ((zD J).getD i 0)) ks)
 n _:=24
def Da (J:MA) (i j:Nat) (ks:List (Int×Int)):MB {k:Nat//k<=(LF J).length}where
 F k:=Vf J++[(83, .u (.s 20 0 (zD J).length)),(84, .u (I (zD J).length)),(85, .u (I i)),(13, .u (I ((zD J).getD i 0))),(89, .u (.s 21 0 (TE J).length)),(90, .u (I (TE J).length)),(91, .u (I j)),(15, .u (I ((TE J).getD j 0))),(95, .u (.s 22 0 (LF J).length)),(96, .u (I (LF J).length)),(97, .u (I k.1))]
 H k:=GX J (((LF J).take k.1).foldl (PQ J ((zD J).getD i 0) ((TE J).getD j 0)) ks)
 n _:=24
theorem AE {LA:Nat->Nat} {H H':HS} (h:lC LA H H':=by repeat' (first|exact trivial|refine And.intro (TB rfl (by first|rfl|(simp[DA.cells];done)|(simp[DA.cells];rfl))) ?_|refine And.intro (gA rfl rfl) ?_|refine And.intro rfl ?_)):lC LA H H':=h
def GH (J:MA) (i:Nat) (n:Int):Bool:= !decide (4+(i:Int)<=J.BA)||decide (((i:Int),n)∈mapM' J)
def Br (J:MA):MB {i:Nat//i<=3/\(1<=i->J.SA.all (GH J 0)=true)/\(2<=i->J.PA.all (GH J 1)=true)/\(3<=i->J.RA.all (GH J 2)=true)}where
 F i:=[(1, .u (.p 10 0)),(11, .u (.m 23)),(131, .u (.s 24 0 3)),(132, .u (I 3)),(133, .u (I i.1))]
 H i:=(24,some (.X 1 22 [.s 6 0 J.SA.length, .s 7 0 J.PA.length, .s 8 0 J.RA.length]))::GX J (mapM' J)
 n _:=25
def YU (J:MA) (i nm:Nat) (l:List Int):MB {q:Nat//q<=l.length/\(l.take q).all (GH J i)=true}where
 F q:=[(1, .u (.p 10 0)),(11, .u (.m 23)),(131, .u (.s 24 0 3)),(132, .u (I 3)),(133, .u (I i))]++[(18, .u (I i)),(138, .u (.s nm 0 l.length)),(139, .u (I l.length)),(140, .u (I q.1))]
 H _:=(24,some (.X 1 22 [.s 6 0 J.SA.length, .s 7 0 J.PA.length, .s 8 0 J.RA.length]))::GX J (mapM' J)
 n _:=25
theorem T9 (J:MA) (hc:J.Clean) (hn:0<=J.BA):Fn prog 61 [.agg (EC 0 J)] (jB 0 J++[]) 10 (B (JM J)) [] 10:=by
 have cb:=BP hc hn
 have IC:=cb.st
 have hit:=cb.EA
 have xH:=hc.BA
 have YL:=cb.ln
 obtain⟨b,bE⟩:∃b,b=JM J:=⟨_,rfl⟩
 rw[<-bE]
 refine fm (KA 182692972237407993803374543331018918979531878399) func61 λw W G g=> ?_
 by_cases h4:J.BA<4\/J.SA.length+J.PA.length+J.RA.length=0
 ·have e:b=true:=by
   rw[bE];unfold JM
   rcases h4 with h4|h4
   ·rw[decide_eq_true h4];rfl
   ·rw[decide_eq_true h4];simp
  subst e
  repeat' (first
   |refine cT 38 rfl (by rw[Bool.eq_iff_iff];simp;omega) ?_
   |refine tk ?_
   |refine CA ?_|refine an ?_ ?_|(intro Z;try simp at Z))
  exact DB rfl qA
 ·have Ub:∀x∈zD J,0<=x/\x<((24:Nat):Int):=Uf λx hx=>by have:=SH hc.SA hx;omega
  have xM:∀x∈TE J,0<=x/\x<((60:Nat):Int):=by
   unfold TE;split
   ·exact Uf λx hx=>by have:=SH hc.PA hx;omega
   ·intro x hx;rw[List.mem_singleton]at hx;omega
  have LZ:∀x∈LF J,0<=x/\x<((60:Nat):Int):=by
   unfold LF;split
   ·exact Uf λx hx=>by have:=SH hc.RA hx;omega
   ·intro x hx;rw[List.mem_singleton]at hx;omega
  have lh:(zD J).length<=60:=Tf O O
  have lm:(TE J).length<=60:=by unfold TE;split;(·exact Tf O O);(·simp)
  have ls:(LF J).length<=60:=by unfold LF;split;(·exact Tf O O);(·simp)
  have NH:(1:Int)<=tC J.BA/\tC J.BA<=3600:=by unfold tC;(repeat' split)<;>omega
  have KM:0<=stM J/\stM J<=86400:=by unfold stM;(repeat' split)<;>omega
  have uF:0<OQ J:=Nat.gcd_pos_of_pos_right _ O
  have VFA:OQ J<=86400:=Nat.le_of_dvd O (Nat.gcd_dvd_right _ _)
  have Yf:=QR J.GA O
  have ce:∀{l:List Int},¬l=[]->0<l.length:=λ{l} h=>List.length_pos_iff.2 h
  have hmul:0<=(if(1:Int)<J.IA then J.IA else 1)*tC J.BA/\(if(1:Int)<J.IA then J.IA else 1)*tC J.BA<=3600000:=by
   have hx:1<=(if(1:Int)<J.IA then J.IA else 1)/\(if(1:Int)<J.IA then J.IA else 1)<=1000:=by split<;>omega
   exact⟨Int.mul_nonneg O O,by have:=Int.mul_le_mul hx.2 NH.2 O O;omega⟩
  have Ea:zA ((if(1:Int)<J.IA then J.IA else 1)*tC J.BA):=by unfold zA;generalize (if(1:Int)<J.IA then J.IA else 1)*tC J.BA=z at hmul;omega
  repeat' (first
   |refine cF 38 rfl (by rw[Bool.eq_iff_iff];simp;omega) ?_
   |refine pC (x:= .region 4 _ _) ([(1, .u (.p 10 0)),(3, .u (.p 11 0)),(4, .u (.s 20 0 (zD J).length)),(5, .u (.s 21 0 1)),(6, .u (.s 22 0 1))]) (jB 0 J++[(10,some (.st (EC 0 J))),(11,some (.st (A [J.GA/86400,J.GA%86400/3600,J.GA%86400/60%60,J.GA%86400%60]))),(20,some (.ro (A (zD J)))),(21,some (.ro (A [0]))),(22,some (.ro (A [0])))]) 23 ?_ ?_
   |refine fW 4 ?_
   |refine pC (x:= .seq (.region 6 _ _) _) ([(1, .u (.p 10 0)),(3, .u (.p 11 0)),(4, .u (.s 20 0 (zD J).length)),(5, .u (.s 21 0 (TE J).length)),(6, .u (.s 22 0 1)),(7, .u (I (if 5<=J.BA then 60 else 3600))),(8, .u (I (J.GA%86400/3600*3600+(if 5<=J.BA then J.GA%86400/60%60*60 else 0))))]) (jB 0 J++[(10,some (.st (EC 0 J))),(11,some (.st (A [J.GA/86400,J.GA%86400/3600,J.GA%86400/60%60,J.GA%86400%60]))),(20,some (.ro (A (zD J)))),(21,some (.ro (A (TE J)))),(22,some (.ro (A [0])))]) 23 ?_ ?_
   |refine FG 6 ?_
   |refine pC (x:= .seq (.region 8 _ _) _) (WU J++[(7, .u (I (tC J.BA))),(8, .u (I (stM J)))]) (XU J) 23 ?_ ?_
   |refine FG 8 ?_
   |refine tk ?_
   |refine And.intro (λ_=>Ea) ?_
   |refine cz 57 func57 (λ_=>Yf) ?_
   |refine CA ?_|refine an ?_ ?_|(intro Z;try simp at Z))
  ·refine Stop.mk ?_
   by_cases h0:J.SA=[]
   ·have e1:zD J=eC 0 24:=if_pos h0
    have e2:J.SA.length=0:=by rw[h0];rfl
    rw[e1]
    have LN:=Qf 24 O
    repeat' (first
     |refine tk ?_
     |(refine AB 106 ?_;refine cA.F [6] (s:= .s 12 0 24) (wh:=[(12,some (.X 1 3 (A (eC 0 24))))]) func106 rfl rfl (λ_=>LN) rfl (by show[SV.s 6 0 J.SA.length,_]=_;rw[e2];rfl) (λ_=>⟨⟨_,[],rfl,by rw[h0];rfl⟩,U⟩) rfl (by show[(_,some (DA.X 1 3 (YA _ (A _))))]=_;rw[kD];try rfl) ?_)
     |refine CA ?_|refine an ?_ ?_|(intro Z;try simp at Z))
    exact⟨[(20,12),(21,14),(22,15)],eL _ eF AE⟩
   ·have e1:zD J=J.SA:=if_neg h0
    rw[e1]
    have LN:=Rf J.SA 24 (ce h0)
    repeat' (first
     |refine tk ?_
     |(refine WC 106 (.s 6 0 _::_) ?_;refine cA.R [6] func106 rfl rfl (λ_=>LN) rfl rfl rfl BC rfl ?_)
     |refine CA ?_|refine an ?_ ?_|(intro Z;try simp at Z))
    exact⟨[(20,6),(21,12),(22,13)],eL _ eF AE⟩
  ·refine Stop.mk ?_
   by_cases h5:5<=J.BA
   ·by_cases h0:J.PA=[]
    ·have e1:TE J=eC 0 60:=by unfold TE KN;rw[if_pos h5,if_pos h0]
     have e2:J.PA.length=0:=by rw[h0];rfl
     rw[e1]
     simp only[if_pos h5]
     have LN:=Qf 60 O
     repeat' (first
      |refine cT 52 rfl eA ?_
      |refine tk ?_
      |(refine AB 106 ?_;refine cA.F [7] (s:= .s 23 0 60) (wh:=[(23,some (.X 1 3 (A (eC 0 60))))]) func106 rfl rfl (λ_=>LN) rfl (by show[SV.s 7 0 J.PA.length,_]=_;rw[e2];rfl) (λ_=>⟨⟨_,[],rfl,by rw[h0];rfl⟩,U⟩) rfl (by show[(_,some (DA.X 1 3 (YA _ (A _))))]=_;rw[kD];try rfl) ?_)
      |refine CA ?_|refine an ?_ ?_|(intro Z;try simp at Z))
     exact⟨[(21,23)],eL _ eF AE⟩
    ·have e1:TE J=J.PA:=by unfold TE KN;rw[if_pos h5,if_neg h0]
     rw[e1]
     simp only[if_pos h5]
     have LN:=Rf J.PA 60 (ce h0)
     repeat' (first
      |refine cT 52 rfl eA ?_
      |refine tk ?_
      |(refine WC 106 (.s 7 0 _::_) ?_;refine cA.R [7] func106 rfl rfl (λ_=>LN) rfl rfl rfl BC rfl ?_)
      |refine CA ?_|refine an ?_ ?_|(intro Z;try simp at Z))
     exact⟨[(21,7)],eL _ eF AE⟩
   ·have e1:TE J=[0]:=by unfold TE;rw[if_neg h5]
    rw[e1]
    simp only[if_neg h5]
    repeat' (first
     |refine cF 52 rfl eA ?_
     |refine tk ?_
     |refine CA ?_|refine an ?_ ?_|(intro Z;try simp at Z))
    exact⟨[],eN eF AE⟩
  ·refine Stop.mk ?_
   by_cases h5:J.BA=6
   ·by_cases h0:J.RA=[]
    ·have e1:LF J=eC 0 60:=by unfold LF KN;rw[if_pos h5,if_pos h0]
     have e2:J.RA.length=0:=by rw[h0];rfl
     simp only[WU,XU,stM,tC,e1,if_pos h5,if_pos (show 5<=J.BA by omega),if_neg (show¬J.BA=4 by omega),if_neg (show¬J.BA=5 by omega)]
     have LN:=Qf 60 O
     repeat' (first
      |refine cT 63 rfl eA ?_
      |refine tk ?_
      |(refine AB 106 ?_;refine cA.F [8] (s:= .s 23 0 60) (wh:=[(23,some (.X 1 3 (A (eC 0 60))))]) func106 rfl rfl (λ_=>LN) rfl (by show[SV.s 8 0 J.RA.length,_]=_;rw[e2];rfl) (λ_=>⟨⟨_,[],rfl,by rw[h0];rfl⟩,U⟩) rfl (by show[(_,some (DA.X 1 3 (YA _ (A _))))]=_;rw[kD];try rfl) ?_)
      |refine CA ?_|refine an ?_ ?_|(intro Z;try simp at Z))
     exact⟨[(22,23)],eL _ eF AE⟩
    ·have e1:LF J=J.RA:=by unfold LF KN;rw[if_pos h5,if_neg h0]
     simp only[WU,XU,stM,tC,e1,if_pos h5,if_pos (show 5<=J.BA by omega),if_neg (show¬J.BA=4 by omega),if_neg (show¬J.BA=5 by omega)]
     have LN:=Rf J.RA 60 (ce h0)
     repeat' (first
      |refine cT 63 rfl eA ?_
      |refine tk ?_
      |(refine WC 106 (.s 8 0 _::_) ?_;refine cA.R [8] func106 rfl rfl (λ_=>LN) rfl rfl rfl BC rfl ?_)
      |refine CA ?_|refine an ?_ ?_|(intro Z;try simp at Z))
     exact⟨[(22,8)],eL _ eF AE⟩
   ·have e1:LF J=[0]:=by unfold LF;rw[if_neg h5]
    have eu:tC J.BA=if 5<=J.BA then 60 else 3600:=by unfold tC;(repeat' split)<;>omega
    simp only[WU,XU,stM,eu,e1,if_neg h5,Int.add_zero]
    repeat' (first
     |refine cF 63 rfl eA ?_
     |refine tk ?_
     |refine CA ?_|refine an ?_ ?_|(intro Z;try simp at Z))
    exact⟨[],eN eF AE⟩
  ·have Dn:OQ J=Nat.gcd ((if(1:Int)<J.IA then J.IA else 1)*tC J.BA).toNat 86400:=rfl
   refine FB (Ar J (stM J)) (λp=>p.1.2) ?_ ?_
   ·exact⟨⟨(((if(1:Int)<J.IA then J.IA else 1)*tC J.BA).toNat,86400),rfl,by dsimp only;generalize (if(1:Int)<J.IA then J.IA else 1)*tC J.BA=z at hmul;omega,by show(86400:Nat)<=10000000;omega⟩,[],U,eN ⟨rfl,rfl,rfl,rfl,rfl,bB (Int.toNat_of_nonneg hmul.1).symm,rfl,U⟩ AE⟩
   ·rintro⟨⟨a,b'⟩,hg,xW,yW⟩
    intro F H Y hF hH hn;dsimp only[Ar]at hF hH hn;subst hF hH hn
    dsimp only at hg xW yW
    by_cases jD:0<b'
    ·skip
     repeat' (first
      |refine cT 77 rfl eA ?_
      |refine tk ?_
      |refine CA ?_|refine an ?_ ?_|(intro Z;try simp at Z))
     refine⟨⟨(b',a%b'),?_,yW,Nat.le_trans (Nat.mod_le _ _) xW⟩,[],Nat.mod_lt _ jD,eN ⟨rfl,rfl,rfl,rfl,rfl,rfl,bB (Int.natCast_emod a b').symm,U⟩ AE⟩
     show Nat.gcd b' (a%b')=OQ J
     rw[<-hg,Nat.gcd_comm b',Nat.gcd_comm a,Nat.gcd_rec b' a]
    ·have lH:b'=0:=O
     subst lH
     have ea:a=OQ J:=by rw[<-hg];simp
     subst ea
     repeat' (first
      |refine cF 77 rfl (by simp) ?_
      |refine tk ?_
      |refine⟨_,EX rfl,?_⟩
      |refine CA ?_|refine an ?_ ?_|(intro Z;try simp at Z))
     refine FB (Wf J) (λi=>(zD J).length-i.1) ?_ ?_
     ·exact⟨⟨0,Nat.zero_le _⟩,[],U,eN eF AE⟩
     ·rintro⟨i,hi⟩
      intro F H Y hF hH hn;dsimp only[Wf]at hF hH hn;subst hF hH hn
      by_cases vC:i<(zD J).length
      ·obtain⟨ks,DP⟩:∃ks,ks=((zD J).take i).foldl (Ca J) []:=⟨_,rfl⟩
       rw[<-DP]
       have hh1:=Ub _ (rK vC)
       repeat' (first
        |refine cT 86 rfl eA ?_
        |refine tk ?_
        |refine XD i O O rfl ?_
        |refine CA ?_|refine an ?_ ?_|(intro Z;try simp at Z))
       refine FB (Xf J i ks) (λj=>(TE J).length-j.1) ?_ ?_
       ·exact⟨⟨0,Nat.zero_le _⟩,[],U,eN eF AE⟩
       ·rintro⟨j,hj⟩
        intro F H Y hF hH hn;dsimp only[Xf]at hF hH hn;subst hF hH hn
        by_cases vB:j<(TE J).length
        ·obtain⟨k2,PG⟩:∃k2,k2=((TE J).take j).foldl (Ba J ((zD J).getD i 0)) ks:=⟨_,rfl⟩
         rw[<-PG]
         have qH:=xM _ (rK vB)
         repeat' (first
          |refine cT 92 rfl eA ?_
          |refine tk ?_
          |refine XD j O O rfl ?_
          |refine CA ?_|refine an ?_ ?_|(intro Z;try simp at Z))
         refine FB (Da J i j k2) (λk=>(LF J).length-k.1) ?_ ?_
         ·exact⟨⟨0,Nat.zero_le _⟩,[],U,eN eF AE⟩
         ·rintro⟨k,hk⟩
          intro F H Y hF hH hn;dsimp only[Da]at hF hH hn;subst hF hH hn
          by_cases yD:k<(LF J).length
          ·obtain⟨k3,U9⟩:∃k3,k3=((LF J).take k).foldl (PQ J ((zD J).getD i 0) ((TE J).getD j 0)) k2:=⟨_,rfl⟩
           have TT:=LZ _ (rK yD)
           have JL:=Sf (f:=PQ J ((zD J).getD i 0) ((TE J).getD j 0)) (b:=k2) yD
           rw[<-U9]at JL⊢
           rcases Bool.eq_false_or_eq_true (zq J ((zD J).getD i 0) ((TE J).getD j 0) ((LF J).getD k 0))with NK|NK
           ·have Zf:PQ J ((zD J).getD i 0) ((TE J).getD j 0) k3 ((LF J).getD k 0)=xN (xN (xN k3 (0,(zD J).getD i 0)) (1,(TE J).getD j 0)) (2,(LF J).getD k 0):=by unfold PQ;rw[if_pos NK]
            rw[Zf]at JL
            repeat' (first
             |refine cT 98 rfl eA ?_
             |refine cT 112 rfl NK ?_
             |refine tk ?_
             |refine XD k O O rfl ?_
             |refine⟨_,λ_=>⟨O,rfl⟩,?_⟩
             |refine⟨_,S9 (k:=(_,_)) rfl rfl rfl rfl rfl rfl,?_⟩
             |refine CA ?_|refine an ?_ ?_|(intro Z;try simp at Z))
            exact⟨⟨k+1,yD⟩,[],show(LF J).length- (k+1)<(LF J).length-k by omega,eN eF ⟨by dsimp only[Da];rw[JL];rfl,AE⟩⟩
           ·have Zf:PQ J ((zD J).getD i 0) ((TE J).getD j 0) k3 ((LF J).getD k 0)=k3:=by unfold PQ;rw[if_neg (by rw[NK];decide)]
            rw[Zf]at JL
            repeat' (first
             |refine cT 98 rfl eA ?_
             |refine cF 112 rfl NK ?_
             |refine tk ?_
             |refine XD k O O rfl ?_
             |refine⟨_,λ_=>⟨O,rfl⟩,?_⟩
             |refine CA ?_|refine an ?_ ?_|(intro Z;try simp at Z))
            exact⟨⟨k+1,yD⟩,[],show(LF J).length- (k+1)<(LF J).length-k by omega,eN eF ⟨by dsimp only[Da];rw[JL];rfl,AE⟩⟩
          ·have hq:k=(LF J).length:=O
           subst hq
           rw[List.take_length]
           repeat' (first
            |refine cF 98 rfl (by simp) ?_
            |refine tk ?_
            |refine CA ?_|refine an ?_ ?_|(intro Z;try simp at Z))
           have JL:=Sf (f:=Ba J ((zD J).getD i 0)) (b:=ks) vB
           rw[<-PG]at JL
           exact⟨⟨j+1,vB⟩,[],show(TE J).length- (j+1)<(TE J).length-j by omega,eN eF ⟨by dsimp only[Xf];rw[JL];rfl,AE⟩⟩
        ·have hq:j=(TE J).length:=O
         subst hq
         rw[List.take_length]
         repeat' (first
          |refine cF 92 rfl (by simp) ?_
          |refine tk ?_
          |refine CA ?_|refine an ?_ ?_|(intro Z;try simp at Z))
         have JL:=Sf (f:=Ca J) (b:=[]) vC
         rw[<-DP]at JL
         exact⟨⟨i+1,vC⟩,[],show(zD J).length- (i+1)<(zD J).length-i by omega,eN eF ⟨by dsimp only[Wf];rw[JL];rfl,AE⟩⟩
      ·have hq:i=(zD J).length:=O
       subst hq
       rw[List.take_length]
       repeat' (first
        |refine cF 86 rfl (by simp) ?_
        |refine tk ?_
        |refine CA ?_|refine an ?_ ?_|(intro Z;try simp at Z))
       obtain⟨kk,hk,PG⟩:∃kk:Nat,J.BA=4+(kk:Int)/\kk<=2:=⟨(J.BA-4).toNat,O,O⟩
       have wW:IntKind.u8.wrap (J.BA-4)=(kk:Int):=by rw[hk];rcases(by omega:kk=0\/kk=1\/kk=2)with rfl|rfl|rfl<;>rfl
       have IL:JM J=(J.SA.all (GH J 0)&&J.PA.all (GH J 1)&&J.RA.all (GH J 2)):=by
        unfold JM
        rw[decide_eq_false O,decide_eq_false O]
        have V9:4+((0:Nat):Int)<=J.BA:=O
        have e0:(λn=>decide ((0,n)∈mapM' J))=GH J 0:=funext λn=>by unfold GH;rw[decide_eq_true V9];rfl
        rw[e0];rfl
       rw[IL]at bE
       refine FB (Br J) (λi=>3-i.1) ?_ ?_
       ·exact⟨⟨0,Nat.zero_le _,O,O,O⟩,[],U,eN eF AE⟩
       ·rintro⟨i,hi,a1,a2,a3⟩
        intro F H Y hF hH hn;dsimp only[Br]at hF hH hn;subst hF hH hn
        rcases(by omega:i=0\/i=1\/i=2\/i=3)with rfl|rfl|rfl|rfl
        ·skip
         repeat' (first
          |refine cT 134 rfl rfl ?_
          |refine tk ?_
          |refine And.intro (λ_=>by first|exact⟨by decide,by decide⟩|omega) ?_
          |refine CA ?_|refine an ?_ ?_|(intro Z;try simp at Z))
         refine FB (YU J 0 6 J.SA) (λq=>J.SA.length-q.1) ?_ ?_
         ·exact⟨⟨0,Nat.zero_le _,rfl⟩,[],U,eN eF AE⟩
         ·rintro⟨q,hq,vD⟩
          intro F H Y hF hH hn;dsimp only[YU]at hF hH hn;subst hF hH hn
          by_cases yD:q<J.SA.length
          ·obtain⟨v,lE⟩:∃v,J.SA.getD q 0=v:=⟨_,rfl⟩
           have IN:decide (((0:Nat):Int)<=IntKind.u8.wrap (J.BA-4))=decide (4+((0:Nat):Int)<=J.BA):=decide_eq_decide.2 (by rw[wW];omega)
           have LM:(if decide (((0:Nat):Int)<=IntKind.u8.wrap (J.BA-4))=true then !decide ((((0:Nat):Int),v)∈mapM' J)else false)= !GH J 0 v:=by rw[IN];unfold GH;cases decide (4+((0:Nat):Int)<=J.BA)<;>cases decide ((((0:Nat):Int),v)∈mapM' J)<;>rfl
           rcases Bool.eq_false_or_eq_true (GH J 0 v)with hz|hz
           ·skip
            repeat' (first
             |refine cT 141 rfl eA ?_
             |refine cF 157 rfl (LM.trans (by rw[hz];rfl)) ?_
             |refine tk ?_
             |refine XD q O O lE ?_
             |refine⟨_,VU (b:=23) (k:=(((0:Nat):Int),v)) rfl rfl ⟨UB.refl _,rfl⟩ ⟨UB.refl _,rfl⟩ rfl,?_⟩
             |refine CA ?_|refine an ?_ ?_|(intro Z;try simp at Z))
            exact⟨⟨q+1,yD,RU yD vD (by rw[lE];exact hz)⟩,[],show J.SA.length- (q+1)<J.SA.length-q by omega,eN eF AE⟩
           ·have qC:=SU (p:=GH J 0) yD (by rw[lE];exact hz)
            have e:b=false:=by rw[bE,qC];simp
            subst e
            repeat' (first
             |refine cT 141 rfl eA ?_
             |refine cT 157 rfl (LM.trans (by rw[hz];rfl)) ?_
             |refine tk ?_
             |refine XD q O O lE ?_
             |refine⟨_,VU (b:=23) (k:=(((0:Nat):Int),v)) rfl rfl ⟨UB.refl _,rfl⟩ ⟨UB.refl _,rfl⟩ rfl,?_⟩
             |refine CA ?_|refine an ?_ ?_|(intro Z;try simp at Z))
            exact DB rfl UA
          ·have IQ:q=J.SA.length:=O
           subst IQ
           rw[List.take_length]at vD
           repeat' (first
            |refine cF 141 rfl (by simp) ?_
            |refine tk ?_
            |refine CA ?_|refine an ?_ ?_|(intro Z;try simp at Z))
           exact⟨⟨0+1,O,λ_=>vD,O,O⟩,[],show 3- (0+1)<3-0 by omega,eN eF AE⟩
        ·skip
         repeat' (first
          |refine cT 134 rfl rfl ?_
          |refine tk ?_
          |refine And.intro (λ_=>by first|exact⟨by decide,by decide⟩|omega) ?_
          |refine CA ?_|refine an ?_ ?_|(intro Z;try simp at Z))
         refine FB (YU J 1 7 J.PA) (λq=>J.PA.length-q.1) ?_ ?_
         ·exact⟨⟨0,Nat.zero_le _,rfl⟩,[],U,eN eF AE⟩
         ·rintro⟨q,hq,vD⟩
          intro F H Y hF hH hn;dsimp only[YU]at hF hH hn;subst hF hH hn
          by_cases yD:q<J.PA.length
          ·obtain⟨v,lE⟩:∃v,J.PA.getD q 0=v:=⟨_,rfl⟩
           have IN:decide (((1:Nat):Int)<=IntKind.u8.wrap (J.BA-4))=decide (4+((1:Nat):Int)<=J.BA):=decide_eq_decide.2 (by rw[wW];omega)
           have LM:(if decide (((1:Nat):Int)<=IntKind.u8.wrap (J.BA-4))=true then !decide ((((1:Nat):Int),v)∈mapM' J)else false)= !GH J 1 v:=by rw[IN];unfold GH;cases decide (4+((1:Nat):Int)<=J.BA)<;>cases decide ((((1:Nat):Int),v)∈mapM' J)<;>rfl
           rcases Bool.eq_false_or_eq_true (GH J 1 v)with hz|hz
           ·skip
            repeat' (first
             |refine cT 141 rfl eA ?_
             |refine cF 157 rfl (LM.trans (by rw[hz];rfl)) ?_
             |refine tk ?_
             |refine XD q O O lE ?_
             |refine⟨_,VU (b:=23) (k:=(((1:Nat):Int),v)) rfl rfl ⟨UB.refl _,rfl⟩ ⟨UB.refl _,rfl⟩ rfl,?_⟩
             |refine CA ?_|refine an ?_ ?_|(intro Z;try simp at Z))
            exact⟨⟨q+1,yD,RU yD vD (by rw[lE];exact hz)⟩,[],show J.PA.length- (q+1)<J.PA.length-q by omega,eN eF AE⟩
           ·have qC:=SU (p:=GH J 1) yD (by rw[lE];exact hz)
            have e:b=false:=by rw[bE,qC];simp
            subst e
            repeat' (first
             |refine cT 141 rfl eA ?_
             |refine cT 157 rfl (LM.trans (by rw[hz];rfl)) ?_
             |refine tk ?_
             |refine XD q O O lE ?_
             |refine⟨_,VU (b:=23) (k:=(((1:Nat):Int),v)) rfl rfl ⟨UB.refl _,rfl⟩ ⟨UB.refl _,rfl⟩ rfl,?_⟩
             |refine CA ?_|refine an ?_ ?_|(intro Z;try simp at Z))
            exact DB rfl UA
          ·have IQ:q=J.PA.length:=O
           subst IQ
           rw[List.take_length]at vD
           repeat' (first
            |refine cF 141 rfl (by simp) ?_
            |refine tk ?_
            |refine CA ?_|refine an ?_ ?_|(intro Z;try simp at Z))
           exact⟨⟨1+1,O,λ_=>a1 O,λ_=>vD,O⟩,[],show 3- (1+1)<3-1 by omega,eN eF AE⟩
        ·skip
         repeat' (first
          |refine cT 134 rfl rfl ?_
          |refine tk ?_
          |refine And.intro (λ_=>by first|exact⟨by decide,by decide⟩|omega) ?_
          |refine CA ?_|refine an ?_ ?_|(intro Z;try simp at Z))
         refine FB (YU J 2 8 J.RA) (λq=>J.RA.length-q.1) ?_ ?_
         ·exact⟨⟨0,Nat.zero_le _,rfl⟩,[],U,eN eF AE⟩
         ·rintro⟨q,hq,vD⟩
          intro F H Y hF hH hn;dsimp only[YU]at hF hH hn;subst hF hH hn
          by_cases yD:q<J.RA.length
          ·obtain⟨v,lE⟩:∃v,J.RA.getD q 0=v:=⟨_,rfl⟩
           have IN:decide (((2:Nat):Int)<=IntKind.u8.wrap (J.BA-4))=decide (4+((2:Nat):Int)<=J.BA):=decide_eq_decide.2 (by rw[wW];omega)
           have LM:(if decide (((2:Nat):Int)<=IntKind.u8.wrap (J.BA-4))=true then !decide ((((2:Nat):Int),v)∈mapM' J)else false)= !GH J 2 v:=by rw[IN];unfold GH;cases decide (4+((2:Nat):Int)<=J.BA)<;>cases decide ((((2:Nat):Int),v)∈mapM' J)<;>rfl
           rcases Bool.eq_false_or_eq_true (GH J 2 v)with hz|hz
           ·skip
            repeat' (first
             |refine cT 141 rfl eA ?_
             |refine cF 157 rfl (LM.trans (by rw[hz];rfl)) ?_
             |refine tk ?_
             |refine XD q O O lE ?_
             |refine⟨_,VU (b:=23) (k:=(((2:Nat):Int),v)) rfl rfl ⟨UB.refl _,rfl⟩ ⟨UB.refl _,rfl⟩ rfl,?_⟩
             |refine CA ?_|refine an ?_ ?_|(intro Z;try simp at Z))
            exact⟨⟨q+1,yD,RU yD vD (by rw[lE];exact hz)⟩,[],show J.RA.length- (q+1)<J.RA.length-q by omega,eN eF AE⟩
           ·have qC:=SU (p:=GH J 2) yD (by rw[lE];exact hz)
            have e:b=false:=by rw[bE,qC];simp
            subst e
            repeat' (first
             |refine cT 141 rfl eA ?_
             |refine cT 157 rfl (LM.trans (by rw[hz];rfl)) ?_
             |refine tk ?_
             |refine XD q O O lE ?_
             |refine⟨_,VU (b:=23) (k:=(((2:Nat):Int),v)) rfl rfl ⟨UB.refl _,rfl⟩ ⟨UB.refl _,rfl⟩ rfl,?_⟩
             |refine CA ?_|refine an ?_ ?_|(intro Z;try simp at Z))
            exact DB rfl UA
          ·have IQ:q=J.RA.length:=O
           subst IQ
           rw[List.take_length]at vD
           repeat' (first
            |refine cF 141 rfl (by simp) ?_
            |refine tk ?_
            |refine CA ?_|refine an ?_ ?_|(intro Z;try simp at Z))
           exact⟨⟨2+1,O,λ_=>a1 O,λ_=>a2 O,λ_=>vD⟩,[],show 3- (2+1)<3-2 by omega,eN eF AE⟩
        ·have e:b=true:=by rw[bE,a1 O,a2 O,a3 O];rfl
         subst e
         repeat' (first
          |refine cF 134 rfl rfl ?_
          |refine tk ?_
          |refine CA ?_|refine an ?_ ?_|(intro Z;try simp at Z))
         exact DB rfl UA
end En
end Go.Proofs.YtkidgehblodbcaaGreatDoor
