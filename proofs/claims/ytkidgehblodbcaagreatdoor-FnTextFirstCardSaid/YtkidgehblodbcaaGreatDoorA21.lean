/- A part of the proof of FnTextFirst: a rule's text, written and read, walked. -/
import Derived.Test.YtkidgehblodbcaaGreatDoorA20
set_option linter.all false
set_option maxRecDepth 100000
set_option maxHeartbeats 16000000
namespace Go.Proofs.YtkidgehblodbcaaGreatDoor
namespace En
open Go.RowKit Go.Proofs.Tryz
def rX (r:MA):Bool:=decide (r.OB.length<=2147483647/\r.VA.length<=2147483647/\r.TA.length<=2147483647/\r.LB.length<=2147483647/\r.sA.length<=2147483647/\r.FA.length<=2147483647/\r.SA.length<=2147483647/\r.PA.length<=2147483647/\r.RA.length<=2147483647/\r.NB.length<=2147483647)
theorem kCA (r:MA):rX r=true↔r.Fits:=by
 unfold rX
 rw[decide_eq_true_iff]
 exact⟨λ⟨a,b,c,d,e,f,g,h,i,j⟩=>⟨a,b,c,d,e,f,g,h,i,j⟩,λ⟨a,b,c,d,e,f,g,h,i,j⟩=>⟨a,b,c,d,e,f,g,h,i,j⟩⟩
theorem lCA (r:MA):Fn prog 4 [.agg (EC 0 r)] (jB 0 r++[]) 10 (B (rX r)) [] 10:=by
 refine fm (KA 4691249611847) func4 λw W G g=> ?_
 repeat' (first
  |refine tk ?_
  |refine CA ?_|refine an ?_ ?_|(intro Z;try simp at Z))
 all_goals (refine DB ?_ UA;show SV.v (.bool _)=SV.v (.bool _);refine congrArg SV.v (congrArg Value.bool ?_);unfold rX;first|(symm;rw[decide_eq_false_iff_not];omega)|(symm;rw[decide_eq_true_iff];omega))
def vt (l l':List Int):MB {i:Nat//i<=l.length/\l.take i=l'.take i}where
 F i:=[(0, .u (.s 0 0 l.length)),(1, .u (.s 1 0 l'.length)),(12, .u (I l.length)),(13, .u (I i.1))]
 H _:=[(0,some (.ro (A l))),(1,some (.ro (A l')))]
 n _:=2
theorem mCA (l l':List Int) (hl:l.length<=2147483647) (gR:l'.length<=2147483647):Fn prog 11 [.s 0 0 l.length, .s 1 0 l'.length] [(0,some (.ro (A l))),(1,some (.ro (A l')))] 2 (B (decide (l=l'))) [] 2:=by
 refine fm (KA 16806963) func11 λw W G g=> ?_
 by_cases nJ:l.length=l'.length
 ·skip
  repeat' (first
   |refine cF 10 rfl eA ?_
   |refine tk ?_
   |refine CA ?_|refine an ?_ ?_|(intro Z;try simp at Z))
  refine FB (vt l l') (λi=>l.length-i.1) ?_ ?_
  ·exact⟨⟨0,Nat.zero_le _,rfl⟩,[],U,eN eF eH⟩
  ·rintro⟨i,hi,ht⟩
   intro F H Y hF hH hn;dsimp only[vt]at hF hH hn;subst hF hH hn
   by_cases fA:i<l.length
   ·have ej:0+(i:Int).toNat*1=i:=O
    have cG:l.take (i+1)=l.take i++[l.getD i 0]:=by rw[List.take_succ_eq_append_getElem fA,List.getD_eq_getElem?_getD,List.getElem?_eq_getElem fA];rfl
    have mO:l'.take (i+1)=l'.take i++[l'.getD i 0]:=by rw[List.take_succ_eq_append_getElem (show i<l'.length by omega),List.getD_eq_getElem?_getD,List.getElem?_eq_getElem (show i<l'.length by omega)];rfl
    by_cases he:l.getD i 0=l'.getD i 0
    ·skip
     repeat' (first
      |refine cT 14 rfl eA ?_
      |refine cF 24 rfl (by rw[ej,he];simp) ?_
      |refine tk ?_
      |refine CA ?_|refine an ?_ ?_|(intro Z;try simp at Z))
     exact⟨⟨i+1,fA,by rw[cG,mO,ht,he]⟩,[],show l.length- (i+1)<l.length-i by omega,eN eF eH⟩
    ·have LC:decide (l=l')=false:=decide_eq_false_iff_not.2 (λe=>he (by rw[e]))
     rw[LC]
     repeat' (first
      |refine cT 14 rfl eA ?_
      |refine cT 24 rfl (by rw[ej];simpa using he) ?_
      |refine tk ?_
      |refine CA ?_|refine an ?_ ?_|(intro Z;try simp at Z))
     exact DB rfl qA
   ·have hq:i=l.length:=O
    subst hq
    rw[List.take_length,nJ,List.take_length]at ht
    have he:decide (l=l')=true:=decide_eq_true ht
    rw[he]
    repeat' (first
     |refine cF 14 rfl (by simp) ?_
     |refine tk ?_
     |refine CA ?_|refine an ?_ ?_|(intro Z;try simp at Z))
    exact DB rfl qA
 ·have LC:decide (l=l')=false:=decide_eq_false_iff_not.2 (λe=>nJ (by rw[e]))
  rw[LC]
  repeat' (first
   |refine cT 10 rfl eA ?_
   |refine tk ?_
   |refine CA ?_|refine an ?_ ?_|(intro Z;try simp at Z))
  exact DB rfl qA
theorem mQ (s:yA) (v lo hi:Int) (neg:Bool) (bE:0<=lo/\lo<=hi/\hi<=1000) (hv: -100000<v/\v<100000) (h:(lo<=v/\v<=hi)\/(neg=true/\-hi<=v/\v<=-lo)):Fn prog 70 [S s,I v, .s 0 0 2,B neg] [(0,some (.ro (A [lo,hi])))] 1 (.v .nilIface) [] 1:=by
 refine fm (KA 4398046511375) func70 λw W G g=> ?_
 repeat' (first
  |refine cF 42 rfl (by rw[<-Bool.not_eq_true];simp;intro a;rcases h with h|⟨rfl,h⟩<;>(try simp)<;>(intros;omega)) ?_
  |refine tk ?_
  |refine And.intro (λ_=>by show(0:Int)<=0/\(0:Int)<2;omega) ?_
  |refine And.intro (λ_=>by show(0:Int)<=1/\(1:Int)<2;omega) ?_
  |refine CA ?_|refine an ?_ ?_|(intro Z;try simp at Z))
 exact DB rfl UA
def oa:List (Value×Value):=[(SB [89,69,65,82,76,89], .int .i64 0),(SB [77,79,78,84,72,76,89], .int .i64 1),(SB [87,69,69,75,76,89], .int .i64 2),(SB [68,65,73,76,89], .int .i64 3),(SB [72,79,85,82,76,89], .int .i64 4),(SB [77,73,78,85,84,69,76,89], .int .i64 5),(SB [83,69,67,79,78,68,76,89], .int .i64 6)]
theorem nCA (f:Nat) (h:f<7):NQ prog 9 (SB (JN.getD f [])) oa (some (f, .int .i64 f)):=by
 rcases(by omega:f=0\/f=1\/f=2\/f=3\/f=4\/f=5\/f=6)with rfl|rfl|rfl|rfl|rfl|rfl|rfl
 all_goals exact⟨λw b=>by kernel_rfl,λw=>by kernel_rfl⟩
def never:yA:=[78,69,86,69,82]
theorem oCA:NQ prog 9 (SB never) oa none:=⟨λw b=>by kernel_rfl,λw=>by kernel_rfl⟩
theorem pCA (f:Nat) (h:f<7):Fn prog 118 [S (JN.getD f [])] [] 0 (.jA [I f, .v .nilIface]) [] 0:=by
 refine fm (KA 65661) func118 λw W G g=> ?_
 repeat' (first
  |refine cF 16 rfl rfl ?_
  |refine tk ?_
  |refine⟨_,EX rfl,?_⟩
  |refine⟨_,FX underlying212 (λ_=>⟨λw b=>by kernel_rfl,λw=>by kernel_rfl⟩) (.inl rfl) rfl rfl rfl rfl,?_⟩
  |refine⟨_,look_ok (es:=oa) (r:=some (f, .int .i64 f)) underlying212 zeroValue49 (λ_=>nCA f h) rfl rfl rfl rfl,?_⟩
  |refine CA ?_|refine an ?_ ?_|(intro Z;try simp at Z))
 exact⟨[],eN ⟨rfl,U⟩ U⟩
theorem qCA:Fn prog 118 [S never] [] 0 (.jA [I 0, .gD 174 (.p 0 0)]) [] 1:=by
 refine fm (KA 65661) func118 λw W G g=> ?_
 repeat' (first
  |refine HD ?_
  |refine cT 16 rfl rfl ?_
  |refine tk ?_
  |refine⟨_,EX rfl,?_⟩
  |refine⟨_,FX underlying212 (λ_=>⟨λw b=>by kernel_rfl,λw=>by kernel_rfl⟩) (.inl rfl) rfl rfl rfl rfl,?_⟩
  |refine⟨_,look_ok (es:=oa) (r:=none) underlying212 zeroValue49 (λ_=>oCA) rfl rfl rfl rfl,?_⟩
  |(refine AB 71 ?_;refine cA.F [] func71 rfl rfl (λ_=>Oe _) rfl rfl (λ_=>U) rfl rfl ?_)
  |refine And.intro (by decide) ?_
  |refine CA ?_|refine an ?_ ?_|(intro Z;try simp at Z))
 exact⟨PD ⟨[(0,1)],eL [(0,1)] ⟨rfl,U⟩ U⟩⟩
def tg:List (Value×Value):=[(SB [77,79], .agg (FE 0)),(SB [84,85], .agg (FE 1)),(SB [87,69], .agg (FE 2)),(SB [84,72], .agg (FE 3)),(SB [70,82], .agg (FE 4)),(SB [83,65], .agg (FE 5)),(SB [83,85], .agg (FE 6))]
theorem rCA (w:Nat) (h:w<7):NQ prog 9 (SB (aF.getD w [])) tg (some (w, .agg (FE w))):=by
 rcases(by omega:w=0\/w=1\/w=2\/w=3\/w=4\/w=5\/w=6)with rfl|rfl|rfl|rfl|rfl|rfl|rfl
 all_goals exact⟨λw b=>by kernel_rfl,λw=>by kernel_rfl⟩
theorem sX {w:Nat} (h:w<7):(aF.getD w []).length=2:=by
 rcases(by omega:w=0\/w=1\/w=2\/w=3\/w=4\/w=5\/w=6)with rfl|rfl|rfl|rfl|rfl|rfl|rfl<;>rfl
theorem xt {n:Int} (h: -100000<n/\n<100000):0<(cI n).length/\(cI n).length<=8:=by
 have D:=GM (n:=n) O
 have h2:0<(Lib.itoa n).length:=by
  unfold Lib.itoa;split
  ·simp
  ·exact List.length_pos_iff.2 (TU _)
 unfold cI;split
 ·omega
 ·rw[List.length_cons];omega
theorem sCA (n:Int):Lib.atoi (cI n)=some n:=by
 unfold cI
 split
 ·exact yZ n
 ·rename_i h
  unfold Lib.itoa
  rw[if_neg h,C9];simp;omega
theorem yt (w n:Int) (hw:0<=w/\w<7) (hn: -100000<n/\n<100000):Fn prog 121 [S (ZE (w,n))] [] 0 (.jA [.agg (A [w,n]), .v .nilIface]) [] 0:=by
 obtain⟨k,rfl⟩:∃k:Nat,w=k:=⟨w.toNat,O⟩
 have hk:k<7:=O
 have hd:=sX hk
 obtain⟨p,hp⟩:∃p:yA,p=if n=0 then[]else cI n:=⟨_,rfl⟩
 have IG:(n=0->p=[])/\(n≠0->p=cI n/\0<p.length)/\p.length<=8:=by
  have:=xt hn
  refine⟨λe=>by rw[hp,if_pos e],λe=>by rw[hp,if_neg e];exact⟨rfl,this.1⟩,?_⟩
  rw[hp];split
  ·simp
  ·exact this.2
 have hx:ZE ((k:Int),n)=p++aF.getD k []:=by
  unfold ZE;rw[hp];show(if n=0 then aF.getD k []else _++aF.getD k [])=_
  split<;>simp
 rw[hx]
 clear hx
 have hs:(⟨(p++aF.getD k []).toArray⟩:ByteArray).size=p.length+2:=by rw[gL,List.length_append,hd]
 have vC:(((p.length+2:Nat):Int)-2).toNat=p.length:=O
 have xF:(⟨(p++aF.getD k []).toArray⟩:ByteArray).extract ((((⟨(p++aF.getD k []).toArray⟩:ByteArray).size:Nat):Int)-2).toNat (((⟨(p++aF.getD k []).toArray⟩:ByteArray).size:Nat):Int).toNat=⟨(aF.getD k []).toArray⟩:=by
  rw[hs,vC,gI,List.drop_left,List.take_of_length_le (by rw[hd];omega)]
 have Sb:(⟨(p++aF.getD k []).toArray⟩:ByteArray).extract (0:Int).toNat ((((⟨(p++aF.getD k []).toArray⟩:ByteArray).size:Nat):Int)-2).toNat=⟨p.toArray⟩:=by
  rw[hs,vC,gI]
  show(⟨(((p++aF.getD k []).drop 0).take (p.length-0)).toArray⟩:ByteArray)=_
  rw[List.drop_zero,Nat.sub_zero,List.take_left]
 have key:=rCA k hk
 refine fm (KA 18023263321983485) func121 λw W G g=> ?_
 by_cases h0:n=0
 ·have yT:p.length=0:=by rw[IG.1 h0];rfl
  repeat' (first
   |refine HD ?_
   |refine cF 11 rfl (by rw[hs];simp;omega) ?_
   |refine cF 36 rfl rfl ?_
   |refine cF 43 rfl (by rw[hs,yT];rfl) ?_
   |refine tk ?_
   |refine⟨_,EX rfl,?_⟩
   |refine⟨_,tJ (g:=0) (cs:=FE 0) (by simp[rG]) rfl rfl rfl rfl,?_⟩
   |refine⟨_,tJ (g:=2) (cs:=FE 1) (by simp[rG]) rfl rfl rfl rfl,?_⟩
   |refine⟨_,tJ (g:=3) (cs:=FE 2) (by simp[rG]) rfl rfl rfl rfl,?_⟩
   |refine⟨_,tJ (g:=4) (cs:=FE 3) (by simp[rG]) rfl rfl rfl rfl,?_⟩
   |refine⟨_,tJ (g:=5) (cs:=FE 4) (by simp[rG]) rfl rfl rfl rfl,?_⟩
   |refine⟨_,tJ (g:=6) (cs:=FE 5) (by simp[rG]) rfl rfl rfl rfl,?_⟩
   |refine⟨_,tJ (g:=7) (cs:=FE 6) (by simp[rG]) rfl rfl rfl rfl,?_⟩
   |refine⟨_,FX underlying217 (λ_=>⟨λw b=>by kernel_rfl,λw=>by kernel_rfl⟩) (.inl rfl) rfl rfl rfl rfl,?_⟩
   |refine⟨_,look_ok (es:=tg) (r:=some (k, .agg (FE k))) underlying217 zeroValue53 (λ_=>by rw[xF];exact key) rfl rfl rfl rfl,?_⟩
   |refine And.intro (λ_=>by rw[hs];exact⟨O,O,O⟩) ?_
   |refine And.intro (λ_=>by rw[hs];unfold zA;omega) ?_
   |refine CA ?_|refine an ?_ ?_|(intro Z;try simp at Z))
  subst h0
  exact⟨PD ⟨[],eN ⟨rfl,U⟩ U⟩⟩
 ·obtain⟨tL,yT⟩:=IG.2.1 h0
  have PE:Lib.atoi p=some n:=by rw[tL];exact sCA n
  repeat' (first
   |refine HD ?_
   |refine cF 11 rfl (by rw[hs];simp;omega) ?_
   |refine cF 36 rfl rfl ?_
   |refine cT 43 rfl (by rw[hs];simp;omega) ?_
   |refine cF 54 rfl rfl ?_
   |refine tk ?_
   |(refine AB 120 ?_;refine iJ (.jA [I n, .v .nilIface]) func120 rfl rfl (λ_=>ia p n O PE) rfl (by rw[Sb]) rfl ?_)
   |refine⟨_,EX rfl,?_⟩
   |refine⟨_,tJ (g:=0) (cs:=FE 0) (by simp[rG]) rfl rfl rfl rfl,?_⟩
   |refine⟨_,tJ (g:=2) (cs:=FE 1) (by simp[rG]) rfl rfl rfl rfl,?_⟩
   |refine⟨_,tJ (g:=3) (cs:=FE 2) (by simp[rG]) rfl rfl rfl rfl,?_⟩
   |refine⟨_,tJ (g:=4) (cs:=FE 3) (by simp[rG]) rfl rfl rfl rfl,?_⟩
   |refine⟨_,tJ (g:=5) (cs:=FE 4) (by simp[rG]) rfl rfl rfl rfl,?_⟩
   |refine⟨_,tJ (g:=6) (cs:=FE 5) (by simp[rG]) rfl rfl rfl rfl,?_⟩
   |refine⟨_,tJ (g:=7) (cs:=FE 6) (by simp[rG]) rfl rfl rfl rfl,?_⟩
   |refine⟨_,FX underlying217 (λ_=>⟨λw b=>by kernel_rfl,λw=>by kernel_rfl⟩) (.inl rfl) rfl rfl rfl rfl,?_⟩
   |refine⟨_,look_ok (es:=tg) (r:=some (k, .agg (FE k))) underlying217 zeroValue53 (λ_=>by rw[xF];exact key) rfl rfl rfl rfl,?_⟩
   |refine And.intro (λ_=>by rw[hs];exact⟨O,O,O⟩) ?_
   |refine And.intro (λ_=>by rw[hs];unfold zA;omega) ?_
   |refine CA ?_|refine an ?_ ?_|(intro Z;try simp at Z))
  exact⟨PD ⟨[],eN ⟨rfl,U⟩ U⟩⟩
theorem tCA {PB:Type} {a:List PB} {n:Nat} {x z:PB}:(a++List.replicate (n+1) z).set a.length x=(a++[x])++List.replicate n z:=by
 simp[List.set_append,List.replicate_succ]
theorem zt {PB:Type} {l:List PB} {i:Nat} {z:PB} (h:i<l.length):(l.take i++List.replicate (l.length-i) z).set i (l.getD i z)=l.take (i+1)++List.replicate (l.length- (i+1)) z:=by
 obtain⟨q,hq⟩:∃q,l.length-i=q+1:=⟨l.length-i-1,O⟩
 have mg:(l.take i).length=i:=by rw[List.length_take];omega
 have:=tCA (a:=l.take i) (n:=q) (x:=l.getD i z) (z:=z)
 rw[mg]at this
 rw[hq,this,show l.length- (i+1)=q by omega,List.take_succ_eq_append_getElem h,List.getD_eq_getElem?_getD,List.getElem?_eq_getElem h];rfl
def Au (l:List Int):MB {i:Nat//i<=l.length}where
 F i:=[(5, .u (.s 1 0 l.length)),(14, .u (.s 0 0 l.length)),(15, .u (I l.length)),(16, .u (I i.1))]
 H i:=[(0,some (.X 1 9 (strs (l.map Lib.itoa)))),(1,some (.X 1 3 (A (l.take i.1++List.replicate (l.length-i.1) 0))))]
 n i:=2
theorem NP (l:List Int) (he:l≠[]) (hl:l.length<=1000) (Z:∀n∈l,-100000<n/\n<100000):Fn prog 122 [S (Lib.join (l.map Lib.itoa) [44])] [] 0 (.jA [.s 0 0 l.length, .v .nilIface]) [(0,some (.X 1 3 (A l)))] 1:=by
 have hj:=lg l Z
 have qG:=HO (l.map Lib.itoa) 44 (by simpa using he) (λp hp=>by obtain⟨n,_,rfl⟩:=List.mem_map.1 hp;exact Hf n) (by rw[List.length_map];omega) O
 rw[List.length_map]at qG
 refine fm (KA 1073988093) func122 λw W G g=> ?_
 repeat' (first
  |refine tk ?_
  |(refine AB 114 ?_;refine cA.V [] func114 rfl rfl (λ_=>qG) rfl rfl rfl (λ_=>U) ?_)
  |refine And.intro (λ_=>by refine⟨O,O,by show(8:Int)*_<=_;omega,O⟩) ?_
  |refine CA ?_|refine an ?_ ?_|(intro Z;try simp at Z))
 refine FB (Au l) (λi=>l.length-i.1) ?_ ?_
 ·refine⟨⟨0,Nat.zero_le _⟩,[(1,2)],U,eL [(1,2)] eF ⟨fD rfl rfl,gA rfl ?_,U⟩⟩
  rw[show((l.length:Nat):Int).toNat=l.length by omega]
  simp only[List.take_zero,List.nil_append,Nat.sub_zero]
  exact mW _
 ·rintro⟨i,hi⟩
  intro F H Y hF hH hn;dsimp only[Au]at hF hH hn;subst hF hH hn
  have ej:0+(i:Int).toNat*1=i:=O
  have ZS:(l.take i++List.replicate (l.length-i) 0).length=l.length:=by simp;omega
  by_cases fA:i<l.length
  ·have hm: -100000<l.getD i 0/\l.getD i 0<100000:=by
    rw[List.getD_eq_getElem?_getD,List.getElem?_eq_getElem fA];exact Z _ (List.getElem_mem fA)
   have hx:(l.map Lib.itoa).getD (0+(i:Int).toNat*1) []=Lib.itoa (l.getD i 0):=by
    rw[ej,List.getD_eq_getElem?_getD,List.getD_eq_getElem?_getD,List.getElem?_map,List.getElem?_eq_getElem fA];rfl
   have hil:=GM (n:=l.getD i 0) O
   repeat' (first
    |refine cT 17 rfl eA ?_
    |refine cF 30 rfl rfl ?_
    |refine tk ?_
    |refine na (by rw[List.length_map];omega) ?_
    |(refine AB 120 ?_;refine iJ (.jA [I (l.getD i 0), .v .nilIface]) func120 rfl rfl (λ_=>ia (Lib.itoa (l.getD i 0)) (l.getD i 0) O (yZ _)) rfl (by rw[hx]) rfl ?_)
    |refine RH (by rw[ZS];omega) ?_
    |refine CA ?_|refine an ?_ ?_|(intro Z;try simp at Z))
   refine⟨⟨i+1,O⟩,[],show l.length- (i+1)<l.length-i by omega,eN eF ⟨fD rfl rfl,gA rfl ?_,U⟩⟩
   rw[ej,zt fA]
  ·have hq:i=l.length:=O
   subst hq
   repeat' (first
    |refine HD ?_
    |refine cF 17 rfl (by simp) ?_
    |refine tk ?_
    |refine CA ?_|refine an ?_ ?_|(intro Z;try simp at Z))
   exact⟨PD ⟨[(0,1)],eL [(0,1)] ⟨rfl,U⟩ ⟨gA rfl (by rw[List.take_length,Nat.sub_self];simp),U⟩⟩⟩
theorem RM {LA:Nat->Nat} {H:HS} {b:Nat} {e:TypeId} {xs:List SV} {ds:List (Int×Int)} (h:WA H (LA b)=some (.X 2 e xs)) (hx:xs=xA ds):aE LA H b (.X 2 e (xA ds)):=by
 show WA H (LA b)=some (.X 2 e (YA LA (xA ds)))
 rw[h,hx,SC]
theorem uCA (n:Nat):cC (mE [Value.int .i64 0,Value.int .i64 0] (n*2))=xA (List.replicate n (0,0)):=by
 have e:mE [Value.int .i64 0,Value.int .i64 0] (n*2)=List.replicate (n*2) (.int .i64 0):=by
  unfold mE
  refine List.ext_getElem (by simp) λi D h2=> ?_
  simp only[List.getElem_map,List.getElem_range,List.getElem_replicate]
  rcases(by have:=Nat.mod_lt i (show 0<2 by omega);omega:i%2=0\/i%2=1)with h|h<;>simp[h]
 rw[e]
 induction n with
 |zero=>rfl
 |succ n ih=>
  have e2:mE [Value.int .i64 0,Value.int .i64 0] (n*2)=List.replicate (n*2) (.int .i64 0):=by
   unfold mE
   refine List.ext_getElem (by simp) λi D h2=> ?_
   simp only[List.getElem_map,List.getElem_range,List.getElem_replicate]
   rcases(by have:=Nat.mod_lt i (show 0<2 by omega);omega:i%2=0\/i%2=1)with h|h<;>simp[h]
  rw[show(n+1)*2=n*2+1+1 by omega,List.replicate_succ,List.replicate_succ,List.replicate_succ]
  show I 0::I 0::cC (List.replicate (n*2) _)=I 0::I 0::xA (List.replicate n (0,0))
  rw[ih e2]
def Bu (l:List (Int×Int)):MB {i:Nat//i<=l.length}where
 F i:=[(5, .u (.s 1 0 l.length)),(14, .u (.s 0 0 l.length)),(15, .u (I l.length)),(16, .u (I i.1))]
 H i:=[(0,some (.X 1 9 (strs (l.map ZE)))),(1,some (.X 2 53 (xA (l.take i.1++List.replicate (l.length-i.1) (0,0)))))]
 n i:=2
theorem Cu {d:Int×Int} (hw:0<=d.1/\d.1<7) (h: -100000<d.2/\d.2<100000):(ZE d).length<=10:=by
 have D:=xt h
 have h2:=sX (w:=d.1.toNat) O
 unfold ZE;split
 ·omega
 ·rw[List.length_append];omega
theorem ug (l:List (Int×Int)) (h:∀d∈l,(0<=d.1/\d.1<7)/\-100000<d.2/\d.2<100000):(Lib.join (l.map ZE) [44]).length<=11*l.length:=by
 by_cases e:l=[]
 ·subst e;simp[Lib.join_nil]
 ·have D:=pX (c:=44) (l.map ZE) (by simpa using e)
  have h2:∀l:List (Int×Int),(∀d∈l,(0<=d.1/\d.1<7)/\-100000<d.2/\d.2<100000)->((l.map ZE).map λ(p:yA)=>p.length+1).sum<=11*l.length:=by
   intro l
   induction l with
   |nil=>intro _;simp
   |cons a l ih=>
    intro h
    have h3:=ih (λn hn=>h n (by simp[hn]))
    have h5:=h a (by simp)
    have h4:=Cu h5.1 h5.2
    simp only[List.map_cons,List.sum_cons,List.length_cons]at h3⊢
    omega
  have:=h2 l h
  omega
theorem vCA (l:List (Int×Int)) (he:l≠[]) (hl:l.length<=1000) (Z:∀d∈l,(0<=d.1/\d.1<7)/\-100000<d.2/\d.2<100000):Fn prog 123 [S (Lib.join (l.map ZE) [44])] [] 0 (.jA [.s 0 0 l.length, .v .nilIface]) [(0,some (.X 2 53 (xA l)))] 1:=by
 have hj:=ug l Z
 have qG:=HO (l.map ZE) 44 (by simpa using he) (λp hp=>by obtain⟨n,_,rfl⟩:=List.mem_map.1 hp;exact L9 n) (by rw[List.length_map];omega) O
 rw[List.length_map]at qG
 refine fm (KA 1073988093) func123 λw W G g=> ?_
 repeat' (first
  |refine tk ?_
  |(refine AB 114 ?_;refine cA.V [] func114 rfl rfl (λ_=>qG) rfl rfl rfl (λ_=>U) ?_)
  |refine And.intro (λ_=>by refine⟨O,O,by show(16:Int)*_<=_;omega,O⟩) ?_
  |refine CA ?_|refine an ?_ ?_|(intro Z;try simp at Z))
 refine FB (Bu l) (λi=>l.length-i.1) ?_ ?_
 ·refine⟨⟨0,Nat.zero_le _⟩,[(1,2)],U,eL [(1,2)] eF ⟨fD rfl rfl,RM rfl ?_,U⟩⟩
  rw[show((l.length:Nat):Int).toNat=l.length by omega]
  simp only[List.take_zero,List.nil_append,Nat.sub_zero]
  exact uCA _
 ·rintro⟨i,hi⟩
  intro F H Y hF hH hn;dsimp only[Bu]at hF hH hn;subst hF hH hn
  have ej:0+(i:Int).toNat*1=i:=O
  have ZS:(l.take i++List.replicate (l.length-i) ((0:Int),(0:Int))).length=l.length:=by simp;omega
  by_cases fA:i<l.length
  ·have hm:=Z (l.getD i (0,0)) (by rw[List.getD_eq_getElem?_getD,List.getElem?_eq_getElem fA];exact List.getElem_mem fA)
   have hx:(l.map ZE).getD (0+(i:Int).toNat*1) []=ZE ((l.getD i (0,0)).1,(l.getD i (0,0)).2):=by
    rw[ej,List.getD_eq_getElem?_getD,List.getD_eq_getElem?_getD,List.getElem?_map,List.getElem?_eq_getElem fA];rfl
   repeat' (first
    |refine cT 17 rfl eA ?_
    |refine cF 30 rfl rfl ?_
    |refine tk ?_
    |refine na (by rw[List.length_map];omega) ?_
    |(refine AB 121 ?_;refine ma func121 rfl rfl (λ_=>yt (l.getD i (0,0)).1 (l.getD i (0,0)).2 hm.1 hm.2) (by rw[hx]) rfl rfl ?_)
    |refine Pe i O (by rw[ZS];omega) ?_
    |refine CA ?_|refine an ?_ ?_|(intro Z;try simp at Z))
   refine⟨⟨i+1,O⟩,[],show l.length- (i+1)<l.length-i by omega,eN eF ⟨fD rfl rfl,RM rfl ?_,U⟩⟩
   exact congrArg xA (zt (z:=((0:Int),(0:Int))) fA)
  ·have hq:i=l.length:=O
   subst hq
   repeat' (first
    |refine HD ?_
    |refine cF 17 rfl (by simp) ?_
    |refine tk ?_
    |refine CA ?_|refine an ?_ ?_|(intro Z;try simp at Z))
   exact⟨PD ⟨[(0,1)],eL [(0,1)] ⟨rfl,U⟩ ⟨RM rfl (by rw[List.take_length,Nat.sub_self];simp),U⟩⟩⟩
theorem Du {s:yA} (h0:∀b,s.head? =some b->Lib.isSp b=false) (D:∀b,s.getLast? =some b->Lib.isSp b=false):Lib.trimSpace s=s:=by
 have key:∀l:yA,(∀b,l.head? =some b->Lib.isSp b=false)->l.dropWhile Lib.isSp=l:=by
  intro l h
  cases l with
  |nil=>rfl
  |cons b r=>rw[List.dropWhile_cons,if_neg (by rw[h b rfl];decide)]
 unfold Lib.trimSpace
 rw[key s h0,key s.reverse (by intro b Z;rw[List.head?_reverse]at Z;exact D b Z),List.reverse_reverse]
def OP (b:UInt8):Prop:=CF b\/(65<=b.toNat/\b.toNat<=90)\/b.toNat=58
theorem pa {b:UInt8} (h:OP b):b.toNat<128:=by unfold OP CF at h;omega
theorem wCA {s:yA} (h:∀b∈s,OP b):Lib.toUpperA s=s:=by
 unfold Lib.toUpperA
 have:∀l:yA,(∀b∈l,OP b)->l.map Lib.upperB=l:=by
  intro l
  induction l with
  |nil=>intro _;rfl
  |cons b l ih=>
   intro h
   have Z:=h b (by simp)
   have e:Lib.upperB b=b:=by
    unfold Lib.upperB
    rw[if_neg]
    unfold Lib.isLowerB
    have h97:¬(97:UInt8)<=b:=by
     rw[UInt8.le_iff_toNat_le];unfold OP CF at Z;have:(97:UInt8).toNat=97:=rfl;omega
    simp[h97]
   rw[List.map_cons,e,ih (λx hx=>h x (by simp[hx]))]
 exact this s h
theorem Eu (t:Int):∀b∈DF t,OP b:=by
 intro b Z
 unfold DF at Z
 simp only[List.mem_append,List.mem_singleton]at Z
 rcases Z with((((((Z|Z)|Z)|Z)|Z)|Z)|Z)|Z
 ·exact .inl (MQ _ _ b Z)
 ·exact .inl (MQ _ _ b Z)
 ·exact .inl (MQ _ _ b Z)
 ·subst Z;exact .inr (.inl (by decide))
 ·exact .inl (MQ _ _ b Z)
 ·exact .inl (MQ _ _ b Z)
 ·exact .inl (MQ _ _ b Z)
 ·subst Z;exact .inr (.inl (by decide))
theorem xCA (t:Int):(DF t).getLast? =some 90:=by unfold DF;exact List.getLast?_concat
abbrev dF (t:Int):yA:=AI++58::DF t
theorem vg (t:Int):∀b∈dF t,OP b:=by
 intro b Z
 rw[List.mem_append,List.mem_cons]at Z
 rcases Z with Z|Z|Z
 ·have:∀b∈AI,65<=b.toNat/\b.toNat<=90:=by decide
  exact .inr (.inl (this b Z))
 ·subst Z;exact .inr (.inr (by decide))
 ·exact Eu t b Z
theorem yCA (t:Int) (h:0<=t/\t<315537897600):Fn prog 115 [S (dF t)] [] 0 (.jA [S AI, .v .nilIface]) [] 0:=by
 have hl:=CP h
 have nJ:(dF t).length=24:=by rw[List.length_append,List.length_cons,hl];rfl
 have qa:=vg t
 have aS:Pure prog 113 [SB (dF t)] (SB (dF t)):=by
  have:=ja (dF t) O (λb Z=>pa (qa b Z))
  rwa [Du (λb Z=>by have:b=68:=(by simpa [dF,AI]using Z.symm);subst this;decide) (λb Z=>by
   have e:(dF t).getLast? =some 90:=by unfold dF;rw[List.getLast?_append,List.getLast?_cons,xCA];rfl
   rw[e]at Z;cases Z;decide)]at this
 have zCA:Pure prog 165 [SB (dF t)] (SB (dF t)):=by
  have:=QCA (dF t) O (λb Z=>pa (qa b Z))
  rwa [wCA qa]at this
 have Fu:=qt (dF t) [59,58] (λb Z=>pa (qa b Z)) (by decide)
 have e7:MP [59,58] (dF t) 0=7:=by simp[dF,AI,MP]
 rw[e7]at Fu
 have Gu:=qt AI [61] (by decide) (by decide)
 rw[show MP [61] AI 0= -1 by decide]at Gu
 have hs:(⟨(dF t).toArray⟩:ByteArray).size=24:=nJ
 have hx:(⟨(dF t).toArray⟩:ByteArray).extract (0:Int).toNat (7:Int).toNat=⟨AI.toArray⟩:=by
  rw[gI]
  show(⟨(((AI++58::DF t).drop 0).take 7).toArray⟩:ByteArray)=_
  rw[List.drop_zero,show(7:Nat)=AI.length from rfl,List.take_left]
 refine fm (KA 4228157) func115 λw W G g=> ?_
 repeat' (first
  |refine cF 10 rfl (by rw[BB];simp[AI]) ?_
  |refine cF 15 rfl rfl ?_
  |refine cF 22 rfl rfl ?_
  |refine tk ?_
  |(refine AB 113 ?_;refine iJ (S (dF t)) func113 rfl rfl (λ_=>aS) rfl rfl rfl ?_)
  |(refine AB 165 ?_;refine iJ (S (dF t)) func165 rfl rfl (λ_=>zCA) rfl rfl rfl ?_)
  |refine cz 166 func166 (λ_=>Fu) ?_
  |(refine AB 166 ?_;refine ma func166 rfl rfl (λ_=>Gu) (by rw[hx]) rfl rfl ?_)
  |refine And.intro (λ_=>by rw[hs];exact⟨O,O,by show(7:Int)<=24;omega⟩) ?_
  |refine CA ?_|refine an ?_ ?_|(intro Z;try simp at Z))
 exact⟨[],eN ⟨by rw[hx];rfl,U⟩ U⟩
def tE (a:Nat) (o:yB):List SV:=[I o.BA,I o.GA,I 0,I o.EA,I o.wk,I 0,I o.EB,I o.XA,I 0, .s a 0 (o.ls.getD 0 []).length, .s (a+1) 0 (o.ls.getD 1 []).length, .s (a+2) 0 (o.ls.getD 2 []).length, .s (a+3) 0 (o.ls.getD 3 []).length, .s (a+4) 0 (o.ls.getD 4 []).length, .s (a+5) 0 o.FA.length, .s (a+6) 0 (o.ls.getD 5 []).length, .s (a+7) 0 (o.ls.getD 6 []).length, .s (a+8) 0 (o.ls.getD 7 []).length, .s (a+9) 0 (o.ls.getD 8 []).length]
def SM (a:Nat) (o:yB):HS:=[(a,some (.ro (A (o.ls.getD 0 [])))),(a+1,some (.ro (A (o.ls.getD 1 [])))),(a+2,some (.ro (A (o.ls.getD 2 [])))),(a+3,some (.ro (A (o.ls.getD 3 [])))),(a+4,some (.ro (A (o.ls.getD 4 [])))),(a+5,some (.ro (xA o.FA))),(a+6,some (.ro (A (o.ls.getD 5 [])))),(a+7,some (.ro (A (o.ls.getD 6 [])))),(a+8,some (.ro (A (o.ls.getD 7 [])))),(a+9,some (.ro (A (o.ls.getD 8 []))))]
theorem aH {o:yB} (h:o.Ok) (k:Nat) (hk:k<9):(o.ls.getD k []).length<=1000/\∀n∈o.ls.getD k [],-100000<n/\n<100000:=by
 have hl:=h.ll
 have:o.ls.getD k []∈o.ls:=by rw[List.getD_eq_getElem?_getD,List.getElem?_eq_getElem O];exact List.getElem_mem _
 exact h.ls _ this
theorem join_le {c:UInt8} {K:Nat}:∀(ps:List yA),(∀p∈ps,p.length<=K)->(Lib.join ps [c]).length<=ps.length*(K+1)
 |[],_=>by simp[Lib.join_nil]
 |[p],h=>by rw[Lib.join_one];have:=h p (by simp);simp;omega
 |p::q::r,h=>by
  have D:=join_le (c:=c) (q::r) (λx hx=>h x (by simp only[List.mem_cons]at hx⊢;exact .inr hx))
  have h2:=h p (by simp)
  rw[wR,List.length_append,List.length_cons,List.length_cons,Nat.succ_mul]
  omega
theorem ADA (k:Nat):(GJ.getD k []).length<=10:=by
 by_cases h:k<9
 ·rcases(by omega:k=0\/k=1\/k=2\/k=3\/k=4\/k=5\/k=6\/k=7\/k=8)with rfl|rfl|rfl|rfl|rfl|rfl|rfl|rfl|rfl<;>decide
 ·rw[List.getD_eq_getElem?_getD,List.getElem?_eq_none (by show 9<=k;omega)];simp
theorem Hu (f:Nat):(JN.getD f []).length<=8:=by
 by_cases h:f<7
 ·rcases(by omega:f=0\/f=1\/f=2\/f=3\/f=4\/f=5\/f=6)with rfl|rfl|rfl|rfl|rfl|rfl|rfl<;>decide
 ·rw[List.getD_eq_getElem?_getD,List.getElem?_eq_none (by show 7<=f;omega)];simp
theorem tX {a:pA} (h:a.Ok):a.text.length<=11100:=by
 unfold pA.text
 rw[List.length_append,List.length_cons]
 cases a with
 |BA f=>have:=Hu f;show 4+(_+1)<=11100;show 4+((JN.getD f []).length+1)<=11100;omega
 |EA n=>have:=GM (n:=n) (by have: -100000<n/\n<100000:=h;omega);show 8+((Lib.itoa n).length+1)<=11100;omega
 |HB w=>have:=sX (w:=w) h;show 4+((aF.getD w []).length+1)<=11100;omega
 |EB n=>have:=GM (n:=n) (by have: -100000<n/\n<100000:=h;omega);show 5+((Lib.itoa n).length+1)<=11100;omega
 |XA t=>have:=CP (t:=t) h;show 5+((DF t).length+1)<=11100;omega
 |A k l=>have D:=ADA k;have h2:=lg l h.2.2.2;have h3:=h.2.2.1;show(GJ.getD k []).length+((Lib.join (l.map Lib.itoa) [44]).length+1)<=11100;omega
 |days l=>have h2:=ug l h.2.2;have h3:=h.2.1;show 5+((Lib.join (l.map ZE) [44]).length+1)<=11100;omega
theorem sU {c:Prop} [Decidable c] {a x:pA} (h:x∈(if c then[]else[a])):¬c/\x=a:=by
 split at h
 ·simp at h
 ·rename_i hc;exact⟨hc,by simpa using h⟩
theorem wg {o:yB} (h:o.Ok):∀a∈o.KJ,a.Ok:=by
 have hI:∀k,k<9->∀a∈DK o k,a.Ok:=λk hk a ha=>by
  obtain⟨D,rfl⟩:=sU ha
  exact⟨hk,D,(aH h k hk).1,(aH h k hk).2⟩
 intro a ha
 unfold yB.KJ at ha
 simp only[List.mem_append,or_assoc]at ha
 have hf:=h.BA
 have hw:=h.wk
 rcases ha with ha|ha|ha|ha|ha|ha|ha|ha|ha|ha|ha|ha|ha|ha|ha
 ·simp only[List.mem_singleton]at ha;subst ha;show o.BA.toNat<7;omega
 ·obtain⟨_,rfl⟩:=sU ha;exact h.EA
 ·obtain⟨_,rfl⟩:=sU ha;show o.wk.toNat<7;omega
 ·obtain⟨_,rfl⟩:=sU ha;exact h.EB
 ·obtain⟨_,rfl⟩:=sU ha;exact h.XA
 ·exact hI 0 O a ha
 ·exact hI 1 O a ha
 ·exact hI 2 O a ha
 ·exact hI 3 O a ha
 ·exact hI 4 O a ha
 ·obtain⟨D,rfl⟩:=sU ha;exact⟨D,h.FA.1,h.FA.2⟩
 ·exact hI 5 O a ha
 ·exact hI 6 O a ha
 ·exact hI 7 O a ha
 ·exact hI 8 O a ha
def oQ (o:yB):List yA:=[pA.text (.BA o.BA.toNat)]
def TM (o:yB):List yA:=if o.EA=0 then oQ o else oQ o++[pA.text (.EA o.EA)]
def UM (o:yB):List yA:=if o.wk=0 then TM o else TM o++[pA.text (.HB o.wk.toNat)]
def VM (o:yB):List yA:=if o.EB=0 then UM o else UM o++[pA.text (.EB o.EB)]
def GG (o:yB):List yA:=if o.XA=0 then VM o else VM o++[pA.text (.XA o.XA)]
def aB (k:Nat) (o:yB) (ops:List yA):List yA:=YS ops (GJ.getD k []) (o.ls.getD k [])
def tU (o:yB):List yA:=aB 4 o (aB 3 o (aB 2 o (aB 1 o (aB 0 o (GG o)))))
def EI (o:yB):List yA:=if o.FA=[]then tU o else tU o++[pA.text (.days o.FA)]
def uX (o:yB):List yA:=aB 8 o (aB 7 o (aB 6 o (aB 5 o (EI o))))
theorem BDA {c:Prop} [Decidable c] {l:List yA} {a:pA}:(if c then l else l++[a.text])=l++((if c then[]else[a]):List pA).map pA.text:=by split<;>simp
theorem CDA (k:Nat) (o:yB) (ops:List yA):aB k o ops=ops++(DK o k).map pA.text:=by
 unfold aB YS DK;split
 ·simp
 ·rfl
theorem xg (o:yB):uX o=o.KJ.map pA.text:=by
 unfold uX EI tU GG VM UM TM yB.KJ
 simp only[CDA,BDA,List.map_append]
 rfl
theorem PP (k:Nat) (o:yB) (ops:List yA):(aB k o ops).length<=ops.length+1:=by unfold aB YS;split<;>simp
theorem DDA (o:yB):(oQ o).length=1/\(TM o).length<=2/\(UM o).length<=3/\(VM o).length<=4/\(GG o).length<=5:=by
 have D:(oQ o).length=1:=rfl
 have h2:(TM o).length<=2:=by unfold TM;split<;>first|omega|(rw[List.length_append,List.length_singleton];omega)
 have h3:(UM o).length<=3:=by unfold UM;split<;>first|omega|(rw[List.length_append,List.length_singleton];omega)
 have h4:(VM o).length<=4:=by unfold VM;split<;>first|omega|(rw[List.length_append,List.length_singleton];omega)
 have h5:(GG o).length<=5:=by unfold GG;split<;>first|omega|(rw[List.length_append,List.length_singleton];omega)
 exact⟨D,h2,h3,h4,h5⟩
abbrev gF (ops:List yA):FS:=[(0, .u (.p 0 0)),(3, .u (.s 11 0 ops.length))]
abbrev iI (o:yB) (ops:List yA):HS:=((0,some (.ro (tE 1 o)))::SM 1 o)++[(11,some (.X 1 9 (strs ops)))]
def Iu (o:yB) (ops:List yA):MB {i:Nat//i<=o.FA.length}where
 F i:=gF ops++[(4, .u (.s 12 0 o.FA.length)),(117, .u (.s 6 0 o.FA.length)),(118, .u (I o.FA.length)),(119, .u (I i.1))]
 H i:=iI o ops++[(12,some (.X 1 9 (strs ((o.FA.take i.1).map ZE++List.replicate (o.FA.length-i.1) []))))]
 n i:=13
theorem EDA {a:List yA} {i n:Nat} {x:yA} (h:a.length=i):(a++List.replicate (n+1) []).set i x=(a++[x])++List.replicate n []:=by
 subst h;simp[List.set_append,List.replicate_succ]
theorem FDA {w:World} {W:Nat->Prop} {G:wA} {g:GW w W} {Q:QT} (o:yB) (h:o.Ok) (ops:List yA) (ho:ops.length<=100):
  En.T (cx w W f83.ntmps (KA Sc) 11 G g) ((f83.body.bind (ID 15)).getD .skip) (gF ops) (iI o ops) 12
   (yE (cx w W f83.ntmps (KA Sc) 11 G g) (gF (if o.FA=[]then ops else ops++[pA.text (.days o.FA)])) (iI o (if o.FA=[]then ops else ops++[pA.text (.days o.FA)])) 12 Q):=by
 obtain⟨hd,Z⟩:=h.FA
 have hj:=ug o.FA Z
 have lQ:=fg (o.FA.map ZE) 44 (by rw[List.length_map];omega) O
 rw[List.length_map]at lQ
 by_cases he:o.FA=[]
 ·rw[if_pos he]
  repeat' (first
   |refine cF 107 rfl (by rw[he];rfl) ?_
   |refine tk ?_
   |refine CA ?_|refine an ?_ ?_|(intro Z;try simp at Z))
  exact⟨[],eN eF ⟨TB rfl rfl,HA,HA,HA,HA,HA,HA,HA,HA,HA,HA,fD rfl rfl,U⟩⟩
 ·rw[if_neg he]
  have hlen:0<o.FA.length:=List.length_pos_iff.2 he
  repeat' (first
   |refine cT 107 rfl eA ?_
   |refine tk ?_
   |refine And.intro (λ_=>by refine⟨O,O,by show(16:Int)*_<=_;omega,O⟩) ?_
   |refine CA ?_|refine an ?_ ?_|(intro Z;try simp at Z))
  refine FB (Iu o ops) (λi=>o.FA.length-i.1) ?_ ?_
  ·refine⟨⟨0,Nat.zero_le _⟩,[],U,eN eF ⟨TB rfl rfl,HA,HA,HA,HA,HA,HA,HA,HA,HA,HA,fD rfl rfl,fD rfl ?_,U⟩⟩
   rw[show((o.FA.length:Nat):Int).toNat*1=o.FA.length by omega]
   simp only[List.take_zero,List.map_nil,List.nil_append,Nat.sub_zero]
   exact bt _
  ·rintro⟨i,hi⟩
   intro F H Y hF hH hn;dsimp only[Iu]at hF hH hn;subst hF hH hn
   have ej:0+(i:Int).toNat*1=i:=O
   have ZS:((o.FA.take i).map ZE++List.replicate (o.FA.length-i) []).length=o.FA.length:=by simp;omega
   by_cases fA:i<o.FA.length
   ·have hm:=Z (o.FA.getD i (0,0)) (by rw[List.getD_eq_getElem?_getD,List.getElem?_eq_getElem fA];exact List.getElem_mem fA)
    repeat' (first
     |refine cT 120 rfl eA ?_
     |refine tk ?_
     |refine mF i O O λrest=> ?_
     |refine cz 129 func129 (λ_=>Mt (o.FA.getD i (0,0)).1 (o.FA.getD i (0,0)).2 hm.1 hm.2) ?_
     |refine Nt (by rw[ZS];omega) ?_
     |refine CA ?_|refine an ?_ ?_|(intro Z;try simp at Z))
    refine⟨⟨i+1,O⟩,[],show o.FA.length- (i+1)<o.FA.length-i by omega,eN eF ⟨TB rfl rfl,HA,HA,HA,HA,HA,HA,HA,HA,HA,HA,fD rfl rfl,fD rfl ?_,U⟩⟩
    refine congrArg strs ?_
    obtain⟨q,hq⟩:∃q,o.FA.length-i=q+1:=⟨o.FA.length-i-1,O⟩
    rw[ej,hq,EDA (by rw[List.length_map,List.length_take];omega)]
    show _=(o.FA.take (i+1)).map ZE++List.replicate (o.FA.length- (i+1)) []
    rw[show o.FA.length- (i+1)=q by omega,List.take_succ_eq_append_getElem fA,List.map_append,List.getD_eq_getElem?_getD,List.getElem?_eq_getElem fA];rfl
   ·have hq:i=o.FA.length:=O
    subst hq
    have e2:(o.FA.take o.FA.length).map ZE++List.replicate (o.FA.length-o.FA.length) []=o.FA.map ZE:=by rw[List.take_length,Nat.sub_self];simp
    rw[e2]
    repeat' (first
     |refine cF 120 rfl (by simp) ?_
     |refine tk ?_
     |refine cr 132 [12] func132 (λ_=>lQ) (λ_=>⟨⟨O,cg _ _,_,[],rfl,by simp[DA.cells]⟩,U⟩) ?_
     |refine And.intro (λ_=>by simp only[ByteArray.size_append,gL,gI,List.length_cons,List.length_nil,List.length_take,List.length_drop];omega) ?_
     |refine⟨by simp only[fI];omega,by first|exact UA|(simp[DA.cells,fI]),O,λ_=>(by intro s hs;simp[DA.cells]at hs;subst hs;rfl),λ_=>⟨by show _*16<=_;omega,by simp only[maxLen];omega⟩,?_⟩
     |refine CA ?_|refine an ?_ ?_|(intro Z;try simp at Z))
    exact⟨[(11,14)],eL [(11,14)] ⟨rfl,nC (by simp),U⟩ ⟨TB rfl rfl,HA,HA,HA,HA,HA,HA,HA,HA,HA,HA,fD rfl (by rw[List.take_of_length_le (by rw[fI];omega)];show strs _++[.v (.string _)]=_;rw[IJ,<-kQ];rfl),U⟩⟩
theorem GDA (o:yB) (h:o.Ok):Fn prog 83 [.p 0 0] (((0,some (.ro (tE 1 o)))::SM 1 o)++[]) 11 (S (Aa o)) [] 11:=by
 have hf:=h.BA
 have hw:=h.wk
 obtain⟨l1,l2,l3,l4,l5⟩:=DDA o
 have l6:=PP 0 o (GG o)
 have l7:=PP 1 o (aB 0 o (GG o))
 have l8:=PP 2 o (aB 1 o (aB 0 o (GG o)))
 have l9:=PP 3 o (aB 2 o (aB 1 o (aB 0 o (GG o))))
 have l10:(tU o).length<=_:=PP 4 o (aB 3 o (aB 2 o (aB 1 o (aB 0 o (GG o)))))
 have l11:(EI o).length<=(tU o).length+1:=by unfold EI;split<;>simp
 have l12:=PP 5 o (EI o)
 have l13:=PP 6 o (aB 5 o (EI o))
 have l14:=PP 7 o (aB 6 o (aB 5 o (EI o)))
 have l15:(uX o).length<=_:=PP 8 o (aB 7 o (aB 6 o (aB 5 o (EI o))))
 have KK:=join_le (c:=59) (K:=11100) (o.KJ.map pA.text) (λp hp=>by obtain⟨a,ha,rfl⟩:=List.mem_map.1 hp;exact tX (wg h a ha))
 rw[<-xg]at KK
 have lQ:=fg (uX o) 59 O (by have:(uX o).length*(11100+1)<=15*11101:=Nat.mul_le_mul O O;omega)
 rw[xg o]at lQ KK
 have RN:=Hu o.BA.toNat
 have hi:=GM (n:=o.EA) (by have:=h.EA;omega)
 have hc:=GM (n:=o.EB) (by have:=h.EB;omega)
 have hu:=CP h.XA
 have dJ:o.wk=0\/(ZE (o.wk,0)).length<=10:= .inr (Cu (d:=(o.wk,0)) hw (by show-100000<(0:Int)/\(0:Int)<100000;decide))
 have HDA:Fn prog 127 [I o.BA] [] 0 (S (JN.getD o.BA.toNat [])) [] 0:=by
  have:=SCA o.BA.toNat O
  rwa [show((o.BA.toNat:Nat):Int)=o.BA by omega]at this
 refine fm (KA Sc) func83 λw W G g=> ?_
 repeat' (first
  |refine fW 27 ?_
  |refine pC (x:= .region 1 _ _) (gF (oQ o)) (iI o (oQ o)) 12 ?_ ?_
  |refine pC (x:= .seq (.region 2 _ _) _) (gF (TM o)) (iI o (TM o)) 12 ?_ ?_
  |refine pC (x:= .seq (.region 4 _ _) _) (gF (UM o)) (iI o (UM o)) 12 ?_ ?_
  |refine pC (x:= .seq (.region 6 _ _) _) (gF (VM o)) (iI o (VM o)) 12 ?_ ?_
  |refine pC (x:= .seq (.region 8 _ _) _) (gF (GG o)) (iI o (GG o)) 12 ?_ ?_
  |refine pC (x:= .region 10 _ _) (gF (aB 0 o (GG o))) (iI o (aB 0 o (GG o))) 12 ?_ ?_
  |refine pC (x:= .region 11 _ _) (gF (aB 1 o (aB 0 o (GG o)))) (iI o (aB 1 o (aB 0 o (GG o)))) 12 ?_ ?_
  |refine pC (x:= .region 12 _ _) (gF (aB 2 o (aB 1 o (aB 0 o (GG o))))) (iI o (aB 2 o (aB 1 o (aB 0 o (GG o))))) 12 ?_ ?_
  |refine pC (x:= .region 13 _ _) (gF (aB 3 o (aB 2 o (aB 1 o (aB 0 o (GG o)))))) (iI o (aB 3 o (aB 2 o (aB 1 o (aB 0 o (GG o)))))) 12 ?_ ?_
  |refine pC (x:= .region 14 _ _) (gF (aB 4 o (aB 3 o (aB 2 o (aB 1 o (aB 0 o (GG o))))))) (iI o (aB 4 o (aB 3 o (aB 2 o (aB 1 o (aB 0 o (GG o))))))) 12 ?_ ?_
  |refine pC (x:= .seq (.region 15 _ _) _) (gF (EI o)) (iI o (EI o)) 12 (FDA o h _ (by show(tU o).length<=100;have:=l10;omega)) ?_
  |refine pC (x:= .region 23 _ _) (gF (aB 5 o (EI o))) (iI o (aB 5 o (EI o))) 12 ?_ ?_
  |refine pC (x:= .region 24 _ _) (gF (aB 6 o (aB 5 o (EI o)))) (iI o (aB 6 o (aB 5 o (EI o)))) 12 ?_ ?_
  |refine pC (x:= .region 25 _ _) (gF (aB 7 o (aB 6 o (aB 5 o (EI o))))) (iI o (aB 7 o (aB 6 o (aB 5 o (EI o))))) 12 ?_ ?_
  |refine pC (x:= .region 26 _ _) (gF (aB 8 o (aB 7 o (aB 6 o (aB 5 o (EI o)))))) (iI o (aB 8 o (aB 7 o (aB 6 o (aB 5 o (EI o)))))) 12 ?_ ?_
  |refine tk ?_
  |refine cz 127 func127 (λ_=>HDA) ?_
  |(refine AB 128 ?_;refine iJ (S (Lib.itoa o.EA)) func128 rfl rfl (λ_=>nX o.EA h.EA) rfl rfl rfl ?_)
  |(refine AB 128 ?_;refine iJ (S (Lib.itoa o.EB)) func128 rfl rfl (λ_=>nX o.EB h.EB) rfl rfl rfl ?_)
  |refine cz 129 func129 (λ_=>Mt o.wk 0 hw (by decide)) ?_
  |refine cz 130 func130 (λ_=>TCA o.XA h.XA) ?_
  |refine cz 41 func41 (λ_=>DM o.XA 0) ?_
  |(refine AB 131 ?_;refine cA.F [11,1] (s:= .s 12 0 (aB 0 o _).length) (wh:=[(11,none),(12,some (.X 1 9 (strs (aB 0 o _))))]) func131 rfl rfl (λ_=>LP _ (GJ.getD 0 []) (o.ls.getD 0 []) O (by decide) (aH h 0 O).1 (aH h 0 O).2) rfl rfl (λ_=>⟨by show _=some (DA.X 1 9 (YA _ (strs _)));rw[GO];rfl,mS,U⟩) rfl (by simp[ED,iC,KE,WA,lD,mp,DA.IB];rfl) ?_)
  |(refine AB 131 ?_;refine cA.F [11,2] (s:= .s 12 0 (aB 1 o _).length) (wh:=[(11,none),(12,some (.X 1 9 (strs (aB 1 o _))))]) func131 rfl rfl (λ_=>LP _ (GJ.getD 1 []) (o.ls.getD 1 []) O (by decide) (aH h 1 O).1 (aH h 1 O).2) rfl rfl (λ_=>⟨by show _=some (DA.X 1 9 (YA _ (strs _)));rw[GO];rfl,mS,U⟩) rfl (by simp[ED,iC,KE,WA,lD,mp,DA.IB];rfl) ?_)
  |(refine AB 131 ?_;refine cA.F [11,3] (s:= .s 12 0 (aB 2 o _).length) (wh:=[(11,none),(12,some (.X 1 9 (strs (aB 2 o _))))]) func131 rfl rfl (λ_=>LP _ (GJ.getD 2 []) (o.ls.getD 2 []) O (by decide) (aH h 2 O).1 (aH h 2 O).2) rfl rfl (λ_=>⟨by show _=some (DA.X 1 9 (YA _ (strs _)));rw[GO];rfl,mS,U⟩) rfl (by simp[ED,iC,KE,WA,lD,mp,DA.IB];rfl) ?_)
  |(refine AB 131 ?_;refine cA.F [11,4] (s:= .s 12 0 (aB 3 o _).length) (wh:=[(11,none),(12,some (.X 1 9 (strs (aB 3 o _))))]) func131 rfl rfl (λ_=>LP _ (GJ.getD 3 []) (o.ls.getD 3 []) O (by decide) (aH h 3 O).1 (aH h 3 O).2) rfl rfl (λ_=>⟨by show _=some (DA.X 1 9 (YA _ (strs _)));rw[GO];rfl,mS,U⟩) rfl (by simp[ED,iC,KE,WA,lD,mp,DA.IB];rfl) ?_)
  |(refine AB 131 ?_;refine cA.F [11,5] (s:= .s 12 0 (aB 4 o _).length) (wh:=[(11,none),(12,some (.X 1 9 (strs (aB 4 o _))))]) func131 rfl rfl (λ_=>LP _ (GJ.getD 4 []) (o.ls.getD 4 []) O (by decide) (aH h 4 O).1 (aH h 4 O).2) rfl rfl (λ_=>⟨by show _=some (DA.X 1 9 (YA _ (strs _)));rw[GO];rfl,mS,U⟩) rfl (by simp[ED,iC,KE,WA,lD,mp,DA.IB];rfl) ?_)
  |(refine AB 131 ?_;refine cA.F [11,7] (s:= .s 12 0 (aB 5 o _).length) (wh:=[(11,none),(12,some (.X 1 9 (strs (aB 5 o _))))]) func131 rfl rfl (λ_=>LP _ (GJ.getD 5 []) (o.ls.getD 5 []) O (by decide) (aH h 5 O).1 (aH h 5 O).2) rfl rfl (λ_=>⟨by show _=some (DA.X 1 9 (YA _ (strs _)));rw[GO];rfl,mS,U⟩) rfl (by simp[ED,iC,KE,WA,lD,mp,DA.IB];rfl) ?_)
  |(refine AB 131 ?_;refine cA.F [11,8] (s:= .s 12 0 (aB 6 o _).length) (wh:=[(11,none),(12,some (.X 1 9 (strs (aB 6 o _))))]) func131 rfl rfl (λ_=>LP _ (GJ.getD 6 []) (o.ls.getD 6 []) O (by decide) (aH h 6 O).1 (aH h 6 O).2) rfl rfl (λ_=>⟨by show _=some (DA.X 1 9 (YA _ (strs _)));rw[GO];rfl,mS,U⟩) rfl (by simp[ED,iC,KE,WA,lD,mp,DA.IB];rfl) ?_)
  |(refine AB 131 ?_;refine cA.F [11,9] (s:= .s 12 0 (aB 7 o _).length) (wh:=[(11,none),(12,some (.X 1 9 (strs (aB 7 o _))))]) func131 rfl rfl (λ_=>LP _ (GJ.getD 7 []) (o.ls.getD 7 []) O (by decide) (aH h 7 O).1 (aH h 7 O).2) rfl rfl (λ_=>⟨by show _=some (DA.X 1 9 (YA _ (strs _)));rw[GO];rfl,mS,U⟩) rfl (by simp[ED,iC,KE,WA,lD,mp,DA.IB];rfl) ?_)
  |(refine AB 131 ?_;refine cA.F [11,10] (s:= .s 12 0 (aB 8 o _).length) (wh:=[(11,none),(12,some (.X 1 9 (strs (aB 8 o _))))]) func131 rfl rfl (λ_=>LP _ (GJ.getD 8 []) (o.ls.getD 8 []) O (by decide) (aH h 8 O).1 (aH h 8 O).2) rfl rfl (λ_=>⟨by show _=some (DA.X 1 9 (YA _ (strs _)));rw[GO];rfl,mS,U⟩) rfl (by simp[ED,iC,KE,WA,lD,mp,DA.IB];rfl) ?_)
  |refine⟨_,tJ (g:=0) (cs:=FE 0) (by simp[rG]) rfl rfl rfl rfl,?_⟩
  |refine⟨_,Uc (a:=o.wk) (b:=0) (c:=0) (d:=0) Hz rfl rfl (.inr rfl) rfl rfl,?_⟩
  |refine And.intro (λ_=>by simp only[ByteArray.size_append,gL,gI,List.length_cons,List.length_nil,List.length_take,List.length_drop];omega) ?_
  |refine⟨by simp only[fI];omega,by first|exact UA|(simp[DA.cells,fI]),O,λ_=>(by intro s hs;simp[DA.cells]at hs;subst hs;rfl),λ_=>⟨by show _*16<=_;omega,by simp only[maxLen];omega⟩,?_⟩
  |refine CA ?_|refine an ?_ ?_|(intro Z;try simp at Z))
 ·exact⟨[],eN ⟨rfl,rfl,U⟩ ⟨TB rfl rfl,HA,HA,HA,HA,HA,HA,HA,HA,HA,HA,fD rfl (by show[SV.v (.string _)]=_;rw[IJ];rfl),U⟩⟩
 ·have e:TM o=oQ o++[pA.text (.EA o.EA)]:=if_neg (by first|assumption|omega)
  rw[e]
  exact⟨[(11,13)],eL [(11,13)] ⟨rfl,nC (by simp),U⟩ ⟨TB rfl rfl,HA,HA,HA,HA,HA,HA,HA,HA,HA,HA,fD rfl (by rw[List.take_of_length_le (by rw[fI];omega)];show strs _++[.v (.string _)]=_;rw[IJ,<-kQ];rfl),U⟩⟩
 ·have e:TM o=oQ o:=if_pos (by first|assumption|omega)
  rw[e]
  exact⟨[],eN eF ⟨TB rfl rfl,HA,HA,HA,HA,HA,HA,HA,HA,HA,HA,fD rfl rfl,U⟩⟩
 ·have e:UM o=TM o++[pA.text (.HB o.wk.toNat)]:=if_neg (by first|assumption|omega)
  rw[e]
  exact⟨[(11,13)],eL [(11,13)] ⟨rfl,nC (by simp),U⟩ ⟨TB rfl rfl,HA,HA,HA,HA,HA,HA,HA,HA,HA,HA,fD rfl (by rw[List.take_of_length_le (by rw[fI];omega)];show strs _++[.v (.string _)]=_;rw[IJ,<-kQ];rfl),U⟩⟩
 ·have e:UM o=TM o:=if_pos (by first|assumption|omega)
  rw[e]
  exact⟨[],eN eF ⟨TB rfl rfl,HA,HA,HA,HA,HA,HA,HA,HA,HA,HA,fD rfl rfl,U⟩⟩
 ·have e:VM o=UM o++[pA.text (.EB o.EB)]:=if_neg (by first|assumption|omega)
  rw[e]
  exact⟨[(11,13)],eL [(11,13)] ⟨rfl,nC (by simp),U⟩ ⟨TB rfl rfl,HA,HA,HA,HA,HA,HA,HA,HA,HA,HA,fD rfl (by rw[List.take_of_length_le (by rw[fI];omega)];show strs _++[.v (.string _)]=_;rw[IJ,<-kQ];rfl),U⟩⟩
 ·have e:VM o=UM o:=if_pos (by first|assumption|omega)
  rw[e]
  exact⟨[],eN eF ⟨TB rfl rfl,HA,HA,HA,HA,HA,HA,HA,HA,HA,HA,fD rfl rfl,U⟩⟩
 ·have e:GG o=VM o++[pA.text (.XA o.XA)]:=if_neg (by first|assumption|omega)
  rw[e]
  exact⟨[(11,13)],eL [(11,13)] ⟨rfl,nC (by simp),U⟩ ⟨TB rfl rfl,HA,HA,HA,HA,HA,HA,HA,HA,HA,HA,fD rfl (by rw[List.take_of_length_le (by rw[fI];omega)];show strs _++[.v (.string _)]=_;rw[IJ,<-kQ];rfl),U⟩⟩
 ·have e:GG o=VM o:=if_pos (by first|assumption|omega)
  rw[e]
  exact⟨[],eN eF ⟨TB rfl rfl,HA,HA,HA,HA,HA,HA,HA,HA,HA,HA,fD rfl rfl,U⟩⟩
 ·exact⟨[(11,12)],eL [(11,12)] ⟨rfl,rfl,U⟩ ⟨TB rfl rfl,HA,HA,HA,HA,HA,HA,HA,HA,HA,HA,fD rfl rfl,U⟩⟩
 ·exact⟨[(11,12)],eL [(11,12)] ⟨rfl,rfl,U⟩ ⟨TB rfl rfl,HA,HA,HA,HA,HA,HA,HA,HA,HA,HA,fD rfl rfl,U⟩⟩
 ·exact⟨[(11,12)],eL [(11,12)] ⟨rfl,rfl,U⟩ ⟨TB rfl rfl,HA,HA,HA,HA,HA,HA,HA,HA,HA,HA,fD rfl rfl,U⟩⟩
 ·exact⟨[(11,12)],eL [(11,12)] ⟨rfl,rfl,U⟩ ⟨TB rfl rfl,HA,HA,HA,HA,HA,HA,HA,HA,HA,HA,fD rfl rfl,U⟩⟩
 ·exact⟨[(11,12)],eL [(11,12)] ⟨rfl,rfl,U⟩ ⟨TB rfl rfl,HA,HA,HA,HA,HA,HA,HA,HA,HA,HA,fD rfl rfl,U⟩⟩
 ·exact⟨[(11,12)],eL [(11,12)] ⟨rfl,rfl,U⟩ ⟨TB rfl rfl,HA,HA,HA,HA,HA,HA,HA,HA,HA,HA,fD rfl rfl,U⟩⟩
 ·exact⟨[(11,12)],eL [(11,12)] ⟨rfl,rfl,U⟩ ⟨TB rfl rfl,HA,HA,HA,HA,HA,HA,HA,HA,HA,HA,fD rfl rfl,U⟩⟩
 ·exact⟨[(11,12)],eL [(11,12)] ⟨rfl,rfl,U⟩ ⟨TB rfl rfl,HA,HA,HA,HA,HA,HA,HA,HA,HA,HA,fD rfl rfl,U⟩⟩
 ·exact⟨[(11,12)],eL [(11,12)] ⟨rfl,rfl,U⟩ ⟨TB rfl rfl,HA,HA,HA,HA,HA,HA,HA,HA,HA,HA,fD rfl rfl,U⟩⟩
 ·refine Stop.mk ?_
  rw[show aB 8 o (aB 7 o (aB 6 o (aB 5 o (EI o))))=o.KJ.map pA.text from xg o]
  repeat' (first
   |refine tk ?_
   |refine cr 132 [11] func132 (λ_=>lQ) (λ_=>⟨⟨O,cg _ _,_,[],rfl,by simp[DA.cells]⟩,U⟩) ?_
   |refine CA ?_|refine an ?_ ?_|(intro Z;try simp at Z))
  exact DB rfl qA
end En
end Go.Proofs.YtkidgehblodbcaaGreatDoor
