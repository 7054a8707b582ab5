/- A part of the proof of FnTextFirst: functions of the reference, walked. -/
import Derived.Test.YtkidgehblodbcaaGreatDoorA18
set_option linter.all false
set_option maxRecDepth 100000
set_option maxHeartbeats 16000000
namespace Go.Proofs.YtkidgehblodbcaaGreatDoor
namespace En
open Go.RowKit Go.Proofs.Tryz
abbrev FF (r:MA):MA:={r with IA:=r.AA.IA,CE:=true,xB:=r.AA.xB}
abbrev GP (r:MA):MA:={FF r with VA:=r.AA.VA,TA:=r.AA.TA,FA:=r.AA.FA}
abbrev Oa (r:MA):MA:={GP r with SA:=r.AA.SA}
abbrev Pa (r:MA):MA:={Oa r with PA:=r.AA.PA}
abbrev Zr (r:MA):MA:={Pa r with RA:=r.AA.RA}
def nb (a:Nat) (b:Bool) (i:Nat):Nat:=cond b (a+i) i
def tK (a:Nat) (m d y h mi s:Bool) (W:MA):List SV:=[.v (.int .u8 W.BA),B W.nH,I W.GA,I W.IA,I W.HB,I W.count,B W.CE,I W.xB,
 .s 0 0 W.OB.length, .s (nb a m 1) 0 W.VA.length, .s (nb a d 2) 0 W.TA.length, .s 3 0 W.LB.length, .s 4 0 W.sA.length, .s (nb a y 5) 0 W.FA.length,
 .s (nb a h 6) 0 W.SA.length, .s (nb a mi 7) 0 W.PA.length, .s (nb a s 8) 0 W.RA.length, .s 9 0 W.NB.length]
def aL (a:Nat) (m d y h mi s:Bool) (W:MA):HS:=cond m [(a+1,some (.X 1 3 (A W.VA)))] []++cond d [(a+2,some (.X 1 3 (A W.TA)))] []++cond y [(a+5,some (.X 2 60 (xA W.FA)))] []++cond h [(a+6,some (.X 1 3 (A W.SA)))] []++cond mi [(a+7,some (.X 1 3 (A W.PA)))] []++cond s [(a+8,some (.X 1 3 (A W.RA)))] []
structure UQ (r:MA) (m d y h mi s:Bool):Prop where
 m:m=true↔r.kC=false/\r.BA=0/\r.VA=[]
 d:d=true↔r.kC=false/\(r.BA=0\/r.BA=1)
 y:y=true↔r.kC=false/\r.BA=2
 h:h=true↔r.SA=[]/\r.BA<4
 mi:mi=true↔r.PA=[]/\r.BA<5
 s:s=true↔r.RA=[]/\r.BA<6
def W4 (m d y:Bool):Prop:=(m=true/\d=true/\y=false)\/(m=false/\d=true/\y=false)\/(m=false/\d=false/\y=true)\/(m=false/\d=false/\y=false)
theorem UQ.ok {r:MA} {m d y h mi s:Bool} (c:UQ r m d y h mi s):W4 m d y:=by
 obtain⟨c1,c2,c3,_,_,_⟩:=c
 unfold W4
 by_cases h0:r.kC=false
 ·by_cases D:r.BA=0
  ·have:d=true:=c2.2 ⟨h0, .inl D⟩
   have:¬y=true:=λe=>by have:=(c3.1 e).2;omega
   cases m<;>simp_all
  ·have:¬m=true:=λe=>D (c1.1 e).2.1
   by_cases h2:r.BA=1
   ·have:d=true:=c2.2 ⟨h0, .inr h2⟩
    have:¬y=true:=λe=>by have:=(c3.1 e).2;omega
    simp_all
   ·have:¬d=true:=λe=>by have:=(c2.1 e).2;omega
    cases y<;>simp_all
 ·have a:¬m=true:=λe=>h0 (c1.1 e).1
  have b:¬d=true:=λe=>h0 (c2.1 e).1
  have c:¬y=true:=λe=>h0 (c3.1 e).1
  simp_all
theorem TAA {LA:Nat->Nat} {H:HS} {b:Nat} {xs:List SV} {ds:List (Int×Int)} (h:WA H (LA b)=some (.X 2 60 xs)) (hx:xs=xA ds):aE LA H b (.X 2 60 (xA ds)):=by
 show WA H (LA b)=some (.X 2 60 (YA LA (xA ds)))
 rw[h,hx,SC]
theorem Qa {LA:Nat->Nat} {H H':HS} (h:lC LA H H':=by repeat' (first|exact trivial|refine And.intro (TAA rfl rfl) ?_|refine And.intro (gA rfl rfl) ?_|refine And.intro (TB rfl (by first|rfl|(simp[DA.cells];done)|(simp[DA.cells];rfl))) ?_|refine And.intro rfl ?_)):lC LA H H':=h
theorem Ra {C:Cx} {l:List (Nat×Nat)} {F:FS} {H:HS} {Y:Nat} {F':FS} {H':HS} {n':Nat} (h:l=l) (e:OA C l F H Y F' H' n'):∃l,OA C l F H Y F' H' n':=⟨l,e⟩
def dU (i:Nat) (b:Bool):List (Nat×Nat):=cond b [(i,30)] []
theorem UAA (r:MA):∃m d y h mi s,UQ r m d y h mi s:=
 ⟨decide (r.kC=false/\r.BA=0/\r.VA=[]),decide (r.kC=false/\(r.BA=0\/r.BA=1)),decide (r.kC=false/\r.BA=2),decide (r.SA=[]/\r.BA<4),decide (r.PA=[]/\r.BA<5),decide (r.RA=[]/\r.BA<6),
  ⟨decide_eq_true_iff,decide_eq_true_iff,decide_eq_true_iff,decide_eq_true_iff,decide_eq_true_iff,decide_eq_true_iff⟩⟩
abbrev wF:FS:=[(1, .u (.p 10 0)),(2, .u (.p 11 0)),(3, .u (.p 12 0))]
abbrev wH (r:MA) (m d y h mi s:Bool) (W:MA):HS:=jB 0 r++[(10,some (.st (tK 20 m d y h mi s W))),(11,some (.st (cC mV.zero))),(12,some (.st (A [r.GA/86400,r.GA%86400/3600,r.GA%86400/60%60,r.GA%86400%60])))]++aL 20 m d y h mi s W
abbrev wH0 (r:MA):HS:=jB 0 r++[(10,some (.st (EC 0 (FF r)))),(11,some (.st (cC mV.zero))),(12,some (.st (A [r.GA/86400,r.GA%86400/3600,r.GA%86400/60%60,r.GA%86400%60]))),(13,some (.st (A [oA (r.GA/86400),KB (r.GA/86400),JC (r.GA/86400)])))]
theorem VAA {w:World} {W:Nat->Prop} {G:wA} {g:GW w W} {Q:QT} (r:MA) (h:r.Ok) {m d y hh mi s:Bool} (c:UQ r m d y hh mi s):
  En.T (cx w W f31.ntmps (KA dO) 10 G g) ((f31.body.bind (ID 6)).getD .skip) (wF++[(4, .u (.p 13 0))]) (wH0 r) 14 (yE (cx w W f31.ntmps (KA dO) 10 G g) wF (wH r m d y false false false (GP r)) 30 Q):=by
 have BD:=h.fits
 have IC:=h.GA
 have gU:(FF r).Fits:=⟨BD.OB,BD.VA,BD.TA,BD.LB,BD.sA,BD.FA,BD.SA,BD.PA,BD.RA,BD.NB⟩
 have eM:r.AA.VA=if m=true then[KB (r.GA/86400)]else r.VA:=by show(if _ then _ else _)=_;simp only[c.m]
 have eD:r.AA.TA=if d=true then[JC (r.GA/86400)]else r.TA:=by show(if _ then _ else _)=_;simp only[c.d]
 have eY:r.AA.FA=if y=true then[(r.GA/86400%7,0)]else r.FA:=by show(if _ then _ else _)=_;simp only[c.y]
 have c1:=c.m
 have c2:=c.d
 have c3:=c.y
 clear c
 by_cases hd:r.kC=false
 ·by_cases h0:r.BA=0
  ·obtain rfl:d=true:=c2.2 ⟨hd, .inl h0⟩
   obtain rfl:y=false:=by rw[<-Bool.not_eq_true];intro e;have:=(c3.1 e).2;omega
   by_cases hm:r.VA=[]
   ·obtain rfl:m=true:=c1.2 ⟨hd,h0,hm⟩
    simp only[if_true,if_false,Bool.false_eq_true]at eM eD eY
    repeat' (first
     |refine cT 25 rfl (by show(!r.kC)=_;rw[hd];rfl) ?_
     |refine cT 28 rfl eA ?_
     |refine cT 33 rfl (by show((r.VA.length:Int)==0)=_;rw[hm];rfl) ?_
     |refine tk ?_
     |refine cr 53 [0,1,2,3,4,5,6,7,8,9] func53 (λ_=>(show Fn prog 53 [.agg (EC 0 (FF r))] (jB 0 (FF r)++[]) 10 (B r.kC) [] 10 from SR (FF r) gU)) (λ_=>ME (r:=FF r) O rfl rfl rfl rfl rfl rfl rfl rfl rfl rfl U) ?_
     |refine cz 56 func56 (λ_=>YN (r.GA/86400) O) ?_
     |refine CA ?_|refine an ?_ ?_|(intro Z;try simp at Z))
    all_goals (simp only[wH,tK,aL,GP,eM,eD,eY];exact⟨[(21,14),(22,15)],eL [(21,14),(22,15)] eF eH⟩)
   ·obtain rfl:m=false:=by rw[<-Bool.not_eq_true];exactλe=>hm (c1.1 e).2.2
    simp only[if_true,if_false,Bool.false_eq_true]at eM eD eY
    repeat' (first
     |refine cT 25 rfl (by show(!r.kC)=_;rw[hd];rfl) ?_
     |refine cT 28 rfl eA ?_
     |refine cF 33 rfl (by show((r.VA.length:Int)==0)=_;simpa using hm) ?_
     |refine tk ?_
     |refine cr 53 [0,1,2,3,4,5,6,7,8,9] func53 (λ_=>(show Fn prog 53 [.agg (EC 0 (FF r))] (jB 0 (FF r)++[]) 10 (B r.kC) [] 10 from SR (FF r) gU)) (λ_=>ME (r:=FF r) O rfl rfl rfl rfl rfl rfl rfl rfl rfl rfl U) ?_
     |refine cz 56 func56 (λ_=>YN (r.GA/86400) O) ?_
     |refine CA ?_|refine an ?_ ?_|(intro Z;try simp at Z))
    all_goals (simp only[wH,tK,aL,GP,eM,eD,eY];exact⟨[(22,14)],eL [(22,14)] eF eH⟩)
  ·obtain rfl:m=false:=by rw[<-Bool.not_eq_true];exactλe=>h0 (c1.1 e).2.1
   by_cases D:r.BA=1
   ·obtain rfl:d=true:=c2.2 ⟨hd, .inr D⟩
    obtain rfl:y=false:=by rw[<-Bool.not_eq_true];intro e;have:=(c3.1 e).2;omega
    simp only[if_true,if_false,Bool.false_eq_true]at eM eD eY
    repeat' (first
     |refine cT 25 rfl (by show(!r.kC)=_;rw[hd];rfl) ?_
     |refine cF 28 rfl eA ?_
     |refine cT 42 rfl eA ?_
     |refine tk ?_
     |refine cr 53 [0,1,2,3,4,5,6,7,8,9] func53 (λ_=>(show Fn prog 53 [.agg (EC 0 (FF r))] (jB 0 (FF r)++[]) 10 (B r.kC) [] 10 from SR (FF r) gU)) (λ_=>ME (r:=FF r) O rfl rfl rfl rfl rfl rfl rfl rfl rfl rfl U) ?_
     |refine cz 56 func56 (λ_=>YN (r.GA/86400) O) ?_
     |refine CA ?_|refine an ?_ ?_|(intro Z;try simp at Z))
    all_goals (simp only[wH,tK,aL,GP,eM,eD,eY];exact⟨[(22,14)],eL [(22,14)] eF eH⟩)
   ·obtain rfl:d=false:=by rw[<-Bool.not_eq_true];intro e;have:=(c2.1 e).2;omega
    by_cases h2:r.BA=2
    ·obtain rfl:y=true:=c3.2 ⟨hd,h2⟩
     simp only[if_true,if_false,Bool.false_eq_true]at eM eD eY
     repeat' (first
      |refine cT 25 rfl (by show(!r.kC)=_;rw[hd];rfl) ?_
      |refine cF 28 rfl eA ?_
      |refine cF 42 rfl eA ?_
      |refine cT 48 rfl eA ?_
      |refine tk ?_
      |refine cr 53 [0,1,2,3,4,5,6,7,8,9] func53 (λ_=>(show Fn prog 53 [.agg (EC 0 (FF r))] (jB 0 (FF r)++[]) 10 (B r.kC) [] 10 from SR (FF r) gU)) (λ_=>ME (r:=FF r) O rfl rfl rfl rfl rfl rfl rfl rfl rfl rfl U) ?_
      |refine cz 56 func56 (λ_=>YN (r.GA/86400) O) ?_
      |refine CA ?_|refine an ?_ ?_|(intro Z;try simp at Z))
     all_goals (simp only[wH,tK,aL,GP,eM,eD,eY];exact⟨[(25,14)],eL [(25,14)] eF eH⟩)
    ·obtain rfl:y=false:=by rw[<-Bool.not_eq_true];exactλe=>h2 (c3.1 e).2
     simp only[if_true,if_false,Bool.false_eq_true]at eM eD eY
     repeat' (first
      |refine cT 25 rfl (by show(!r.kC)=_;rw[hd];rfl) ?_
      |refine cF 28 rfl eA ?_
      |refine cF 42 rfl eA ?_
      |refine cF 48 rfl eA ?_
      |refine tk ?_
      |refine cr 53 [0,1,2,3,4,5,6,7,8,9] func53 (λ_=>(show Fn prog 53 [.agg (EC 0 (FF r))] (jB 0 (FF r)++[]) 10 (B r.kC) [] 10 from SR (FF r) gU)) (λ_=>ME (r:=FF r) O rfl rfl rfl rfl rfl rfl rfl rfl rfl rfl U) ?_
      |refine cz 56 func56 (λ_=>YN (r.GA/86400) O) ?_
      |refine CA ?_|refine an ?_ ?_|(intro Z;try simp at Z))
     all_goals (simp only[wH,tK,aL,GP,eM,eD,eY];exact⟨[],eN eF eH⟩)
 ·obtain rfl:m=false:=by rw[<-Bool.not_eq_true];exactλe=>hd (c1.1 e).1
  obtain rfl:d=false:=by rw[<-Bool.not_eq_true];exactλe=>hd (c2.1 e).1
  obtain rfl:y=false:=by rw[<-Bool.not_eq_true];exactλe=>hd (c3.1 e).1
  rw[Bool.not_eq_false]at hd
  simp only[if_true,if_false,Bool.false_eq_true]at eM eD eY
  repeat' (first
   |refine cF 25 rfl (by show(!r.kC)=_;rw[hd];rfl) ?_
   |refine tk ?_
   |refine cr 53 [0,1,2,3,4,5,6,7,8,9] func53 (λ_=>(show Fn prog 53 [.agg (EC 0 (FF r))] (jB 0 (FF r)++[]) 10 (B r.kC) [] 10 from SR (FF r) gU)) (λ_=>ME (r:=FF r) O rfl rfl rfl rfl rfl rfl rfl rfl rfl rfl U) ?_
   |refine cz 56 func56 (λ_=>YN (r.GA/86400) O) ?_
   |refine CA ?_|refine an ?_ ?_|(intro Z;try simp at Z))
  all_goals (simp only[wH,tK,aL,GP,eM,eD,eY];exact⟨[],eN eF eH⟩)
theorem WAA {w:World} {W:Nat->Prop} {G:wA} {g:GW w W} {Q:QT} (r:MA) (h:r.Ok) {m d y hh mi s:Bool} (c:UQ r m d y hh mi s):
  En.T (cx w W f31.ntmps (KA dO) 10 G g) ((f31.body.bind (ID 16)).getD .skip) wF (wH r m d y false false false (GP r)) 30 (yE (cx w W f31.ntmps (KA dO) 10 G g) wF (wH r m d y hh false false (Oa r)) 30 Q):=by
 have BD:=h.fits
 have e:(if((r.SA.length:Int)==0)=true then decide (r.BA<4)else false)=hh:=by rw[Bool.eq_iff_iff,c.h];simp
 have eW:r.AA.SA=if hh=true then[r.GA%86400/3600]else r.SA:=by show(if _ then _ else _)=_;simp only[c.h]
 have hl:=BD.SA
 have hw:dU 26 hh=dU 26 hh:=rfl
 have c4:=c.ok
 clear c
 unfold W4 at c4
 rcases c4 with⟨rfl,rfl,rfl⟩|⟨rfl,rfl,rfl⟩|⟨rfl,rfl,rfl⟩|⟨rfl,rfl,rfl⟩
 all_goals (cases hh)
 all_goals (simp only[if_true,if_false,Bool.false_eq_true]at eW)
 repeat' (first
  |refine AD (t:=64) _ rfl e ?_
  |refine tk ?_
  |refine CA ?_|refine an ?_ ?_|(intro Z;try simp at Z))
 all_goals (simp only[wH,tK,aL,Oa,eW];exact Ra hw (eL _ eF Qa))
theorem XAA {w:World} {W:Nat->Prop} {G:wA} {g:GW w W} {Q:QT} (r:MA) (h:r.Ok) {m d y hh mi s:Bool} (c:UQ r m d y hh mi s):
  En.T (cx w W f31.ntmps (KA dO) 10 G g) ((f31.body.bind (ID 18)).getD .skip) wF (wH r m d y hh false false (Oa r)) 30 (yE (cx w W f31.ntmps (KA dO) 10 G g) wF (wH r m d y hh mi false (Pa r)) 30 Q):=by
 have BD:=h.fits
 have e:(if((r.PA.length:Int)==0)=true then decide (r.BA<5)else false)=mi:=by rw[Bool.eq_iff_iff,c.mi];simp
 have eW:r.AA.PA=if mi=true then[r.GA%86400/60%60]else r.PA:=by show(if _ then _ else _)=_;simp only[c.mi]
 have hl:=BD.PA
 have hw:dU 27 mi=dU 27 mi:=rfl
 have c4:=c.ok
 clear c
 unfold W4 at c4
 rcases c4 with⟨rfl,rfl,rfl⟩|⟨rfl,rfl,rfl⟩|⟨rfl,rfl,rfl⟩|⟨rfl,rfl,rfl⟩
 all_goals (cases hh<;>cases mi)
 all_goals (simp only[if_true,if_false,Bool.false_eq_true]at eW)
 repeat' (first
  |refine AD (t:=77) _ rfl e ?_
  |refine tk ?_
  |refine CA ?_|refine an ?_ ?_|(intro Z;try simp at Z))
 all_goals (simp only[wH,tK,aL,Pa,eW];exact Ra hw (eL _ eF Qa))
theorem YAA {w:World} {W:Nat->Prop} {G:wA} {g:GW w W} {Q:QT} (r:MA) (h:r.Ok) {m d y hh mi s:Bool} (c:UQ r m d y hh mi s):
  En.T (cx w W f31.ntmps (KA dO) 10 G g) ((f31.body.bind (ID 20)).getD .skip) wF (wH r m d y hh mi false (Pa r)) 30 (yE (cx w W f31.ntmps (KA dO) 10 G g) wF (wH r m d y hh mi s (Zr r)) 30 Q):=by
 have BD:=h.fits
 have e:(if((r.RA.length:Int)==0)=true then decide (r.BA<6)else false)=s:=by rw[Bool.eq_iff_iff,c.s];simp
 have eW:r.AA.RA=if s=true then[r.GA%86400%60]else r.RA:=by show(if _ then _ else _)=_;simp only[c.s]
 have hl:=BD.RA
 have hw:dU 28 s=dU 28 s:=rfl
 have c4:=c.ok
 clear c
 unfold W4 at c4
 rcases c4 with⟨rfl,rfl,rfl⟩|⟨rfl,rfl,rfl⟩|⟨rfl,rfl,rfl⟩|⟨rfl,rfl,rfl⟩
 all_goals (cases hh<;>cases mi<;>cases s)
 all_goals (simp only[if_true,if_false,Bool.false_eq_true]at eW)
 repeat' (first
  |refine AD (t:=90) _ rfl e ?_
  |refine tk ?_
  |refine CA ?_|refine an ?_ ?_|(intro Z;try simp at Z))
 all_goals (simp only[wH,tK,aL,Zr,eW];exact Ra hw (eL _ eF Qa))
theorem ZAA (r:MA) (h:r.Ok) {m d y hh mi s:Bool} (c:UQ r m d y hh mi s):Fn prog 31 [.agg (EC 0 r)] (jB 0 r++[]) 10 (.agg (tK 20 m d y hh mi s r.AA)) (aL 20 m d y hh mi s r.AA) 30:=by
 have BD:=h.fits
 have IC:=h.GA
 have MM:=h.IA
 refine fm (KA dO) func31 λw W G g=> ?_
 repeat' (first
  |refine pC (x:= .seq (.region 2 _ _) _) [(1, .u (.p 10 0)),(2, .u (.p 11 0))] (jB 0 r++[(10,some (.st (EC 0 (FF r)))),(11,some (.st (cC mV.zero)))]) 12 ?_ ?_
  |refine X7 (x:= .seq (.region 6 _ _) _) (VAA r h c) (eN eF eH) ?_
  |refine pC (x:= .seq (.region 16 _ _) _) _ _ _ (WAA r h c) ?_
  |refine pC (x:= .seq (.region 18 _ _) _) _ _ _ (XAA r h c) ?_
  |refine pC (x:= .seq (.region 20 _ _) _) _ _ _ (YAA r h c) ?_
  |refine FG 22 ?_
  |refine tk ?_
  |refine cz 57 func57 (λ_=>QR r.GA O) ?_
  |refine cz 62 func62 (λ_=>tV (r.GA/86400) O) ?_
  |refine CA ?_|refine an ?_ ?_|(intro Z;try simp at Z))
 ·have hu:r.CE=false:=by simpa using‹_›
  have eU:r.AA.xB=r.GA+9223372036:=if_neg (by rw[hu];decide)
  simp only[FF,eU]
  exact⟨[],eN eF eH⟩
 ·have hu:r.CE=true:=by simpa using‹_›
  have eU:r.AA.xB=r.xB:=if_pos hu
  simp only[FF,eU,hu]
  exact⟨[],eN eF eH⟩
 ·have c4:=c.ok
  clear c
  unfold W4 at c4
  rcases c4 with⟨rfl,rfl,rfl⟩|⟨rfl,rfl,rfl⟩|⟨rfl,rfl,rfl⟩|⟨rfl,rfl,rfl⟩
  all_goals (cases hh<;>cases mi<;>cases s)
  all_goals (refine Stop.mk ?_)
  repeat' (first
   |refine tk ?_
   |refine CA ?_|refine an ?_ ?_|(intro Z;try simp at Z))
  all_goals exact⟨[],eN eF Qa⟩
theorem dAA {J:MA} (h:J.Clean) (hn:0<=J.BA):J.AA.Ok:=by
 have t:=SW h
 have e2:before 2=365:=by decide
 have e9:before 9001=3287182:=by decide
 have hs:=h.GA
 have hi:=h.IA
 have one:∀{l:List Int} {p:Prop} [Decidable p] {x:Int},l.length<=12->(if p then[x]else l).length<=2147483647:=λ{l p _ x} h=>by split;(·simp);(·omega)
 refine⟨⟨?_,one ?_,one ?_,?_,?_,?_,?_,?_,?_,?_⟩,⟨hn,h.BA⟩,by show 31536000<=J.GA/\J.GA<284100000000;omega,?_,h.HB⟩
 ·have:=XE h.OB;show J.OB.length<=_;omega
 ·have:=XE h.VA;omega
 ·have:=XE h.TA;omega
 ·have:=XE h.LB;show J.LB.length<=_;omega
 ·have:=XE h.sA;show J.sA.length<=_;omega
 ·have:=h.mP
  show(if J.kC=false/\J.BA=2 then[(J.GA/86400%7,(0:Int))]else J.FA).length<=_
  split;(·simp);(·omega)
 ·have:=t.lh;omega
 ·have:=t.lm;omega
 ·have:=t.ls;omega
 ·have:=XE h.NB;show J.NB.length<=_;omega
 ·show 0<=(if J.IA>1 then J.IA else 1)/\(if J.IA>1 then J.IA else 1)<=1000
  split<;>omega
noncomputable def NM (J:MA) (u:Bool) (N:Nat):List Int×Bool:=
 if(!J.JJ||u)=true then([],true)else VI J.AA.xB J.GA (UG J.AA) (yI J.AA) (HJ N J.count) (OH J.BA).toNat 0 []
theorem eAA {N:Nat} {c:Int} (h:0<c):(if c<(N:Int)then c else(N:Int))=((HJ N c:Nat):Int):=by unfold HJ;rw[if_pos h];split<;>omega
theorem fAA {N:Nat} {c:Int} (h:¬0<c):(N:Int)=((HJ N c:Nat):Int):=by unfold HJ;rw[if_neg h]
structure jr (W:MA) (N kB:Nat):Prop where
 ok:W.Ok
 t:tH W
 wk:0<W.sA.length->W.BA=0
 sp:W.OB.length<=12
 kB:kB<=1000
 hu:W.CE=true
 ub:0<=W.xB/\W.xB<=400000000000
theorem gAA {J:MA} (BD:J.Fits) (h:J.Clean) (hn:0<=J.BA):J.Ok:=by
 have e2:before 2=365:=by decide
 have e9:before 9001=3287182:=by decide
 have hs:=h.GA
 have hi:=h.IA
 exact⟨BD,⟨hn,h.BA⟩,O,hi,h.HB⟩
theorem hAA {J:MA} (h:J.Clean):0<=J.AA.xB/\J.AA.xB<=400000000000:=by
 have e2:before 2=365:=by decide
 have e9:before 9001=3287182:=by decide
 have If:before 10000=3652059:=by decide
 have hs:=h.GA
 have hu:=h.xB
 show 0<=(if J.CE=true then J.xB else J.GA+9223372036)/\(if J.CE=true then J.xB else J.GA+9223372036)<=400000000000
 split
 ·rename_i e
  have:=hu e
  omega
 ·omega
def vf (m d y h mi s:Bool) (W:MA):List (Nat×Option DA):=[(11,none),(12,none),(13,none),(14,none),(15,none),(16,none),(17,none),(18,none),(19,none),(20,none),(21,none),(22,cond m (some (.X 1 3 (A W.VA))) none),(23,cond d (some (.X 1 3 (A W.TA))) none),(24,none),(25,none),(26,cond y (some (.X 2 60 (xA W.FA))) none),(27,cond h (some (.X 1 3 (A W.SA))) none),(28,cond mi (some (.X 1 3 (A W.PA))) none),(29,cond s (some (.X 1 3 (A W.RA))) none),(30,none)]
theorem call31 {C:Cx} {H:HS} {c0:Bool} {k:QD->Prop} {J W:MA} {m d y hh mi s:Bool} (hP:C.P=prog) (h:Fn prog 31 [.agg (EC 0 J)] (jB 0 J++[]) 10 (.agg (tK 20 m d y hh mi s W)) (aL 20 m d y hh mi s W) 30)
  (hH:NI (mp [0,1,2,3,4,5,6,7,8,9] 10 30 11) H (jB 0 J++[])) (hk:k ⟨.agg (tK 21 m d y hh mi s W),vf m d y hh mi s W,32,[0,1,2,3,4,5,6,7,8,9]⟩):cA C 31 [.agg (EC 0 J)] H 11 c0 k:=by
 refine cA.F [0,1,2,3,4,5,6,7,8,9] (s:= .agg (tK 21 m d y hh mi s W)) (wh:=vf m d y hh mi s W) func31 hP rfl (λ_=>h) rfl rfl (λ_=>hH) ?_ ?_ hk
 ·cases m<;>cases d<;>cases y<;>cases hh<;>cases mi<;>cases s<;>rfl
 ·cases m<;>cases d<;>cases y<;>cases hh<;>cases mi<;>cases s<;>(simp[ED,iC,KE,WA,lD,mp,DA.IB,jB,aL,vf,List.range'];done)
def kr (m d y h mi s:Bool):List (Nat×Nat):=[(11,32),(20,0),(21,nb 21 m 1),(22,nb 21 d 2),(23,3),(24,4),(25,nb 21 y 5),(26,nb 21 h 6),(27,nb 21 mi 7),(28,nb 21 s 8),(29,9)]
abbrev lr (W:MA) (kB k:Nat) (l:List Int):FS:=[(1, .u (I kB)),(2, .u (.p 10 0)),(4, .u (.s 30 0 l.length)),(6, .u (.p 11 0)),(7, .u (I k))]
abbrev nr (W:MA) (l:List Int):HS:=(30,some (.X 1 2 (A l)))::jB 20 W++[(10,some (.st (EC 20 W))),(11,some (.st (EC 20 W)))]
def pr (W:MA) (kB:Nat) (R:List Int×Bool):MB {s:Nat×Nat×List Int//s.2.2.length<=kB/\s.1+s.2.1=(OH W.BA).toNat/\VI W.xB W.GA (UG W) (yI W) kB s.1 s.2.1 s.2.2=R}where
 F s:=lr W kB s.1.2.1 s.1.2.2
 H s:=nr W s.1.2.2
 n s:=31
def sr (W:MA) (kB k:Nat) (S:List Int) (R:List Int×Bool):MB {s:Nat×List Int//s.1<=S.length/\s.2.length<=kB/\rH W.xB W.GA kB (S.drop s.1) s.2=R}where
 F s:=lr W kB k s.1.2++[(57, .u (.s 40 0 S.length)),(58, .u (I S.length)),(59, .u (I s.1.1))]
 H s:=(40,some (.X 1 2 (A S)))::nr W s.1.2
 n s:=41
theorem iAA {w:World} {w':Nat->Prop} {G:wA} {g:GW w w'} (J W:MA) (N kB:Nat) (hd:jr W N kB) (R:List Int×Bool) (UX:VI W.xB W.GA (UG W) (yI W) kB (OH W.BA).toNat 0 []=R):
  En.T (cx w w' f14.ntmps (KA gT) 10 G g) ((f14.body.bind (ID 6)).getD .skip) [(1, .u (I kB)),(2, .u (.p 10 0)),(4, .u (.v (.slice none 0 0))),(6, .u (.p 11 0))] (jB 20 W++[(10,some (.st (EC 0 J))),(11,some (.st (EC 20 W)))]) 40
   (lV (cx w w' f14.ntmps (KA gT) 10 G g) [.tmp 4, .tmp 5] λs H Y=>∃l,OA (cx w w' f14.ntmps (KA gT) 10 G g) l [(0, .u s)] H Y [(0, .u (.jA [.s 10 0 R.1.length,B R.2]))] [(10,some (.X 1 2 (A R.1)))] 11):=by
 repeat' (first
  |refine tk ?_
  |refine CA ?_|refine an ?_ ?_|(intro Z;try simp at Z))
 refine aG 4 1 2 rfl ?_
 refine FB (pr W kB R) (λs=>s.1.1) ?_ ?_
 ·exact⟨⟨((OH W.BA).toNat,0,[]),Nat.zero_le _,rfl,UX⟩,[(30,40)],U,eL [(30,40)] eF eH⟩
 ·rintro⟨⟨f,k,l⟩,g1,g2,g3⟩
  intro F H Y hF hH hn;dsimp only[pr]at hF hH hn;subst hF hH hn
  dsimp only at g1 g2 g3
  have qH:=hd.kB
  have TX:=bc W.BA
  have ES:=hd.ok.BA
  have hub:=hd.ub
  by_cases dR:kB<=l.length
  ·have iU:R=(l,false):=by rw[<-g3];cases f<;>(unfold VI;rw[if_pos dR])
   subst iU
   repeat' (first
    |refine HD ?_
    |refine cF 35 rfl eA ?_
    |refine tk ?_
    |refine CA ?_|refine an ?_ ?_|(intro Z;try simp at Z))
   exact⟨PD ⟨[(10,30)],eL [(10,30)] ⟨rfl,U⟩ ⟨gA rfl rfl,U⟩⟩⟩
  ·cases f with
   |zero=>
    have iU:R=(l,true):=by rw[<-g3];unfold VI;rw[if_neg dR]
    subst iU
    repeat' (first
     |refine HD ?_
     |refine cT 35 rfl eA ?_
     |refine cT 42 rfl eA ?_
     |refine tk ?_
     |refine cz 32 func32 (λ_=>dY W.BA ES) ?_
     |refine CA ?_|refine an ?_ ?_|(intro Z;try simp at Z))
    exact⟨PD ⟨[(10,30)],eL [(10,30)] ⟨rfl,U⟩ ⟨gA rfl rfl,U⟩⟩⟩
   |succ f=>
    unfold VI at g3
    rw[if_neg dR]at g3
    have VX:=SAA W hd.ok hd.t k O hd.wk hd.sp
    obtain⟨S,hS⟩:∃S,S=(UG W k).1:=⟨_,rfl⟩
    obtain⟨o,ho⟩:∃o,o=(UG W k).2:=⟨_,rfl⟩
    rw[<-hS,<-ho]at VX g3
    by_cases TO:2000<S.length
    ·rw[if_pos TO]at g3
     subst g3
     repeat' (first
      |refine HD ?_
      |refine cT 35 rfl eA ?_
      |refine cF 42 rfl eA ?_
      |refine cT 52 rfl eA ?_
      |refine tk ?_
      |refine cz 32 func32 (λ_=>dY W.BA ES) ?_
      |refine cf 33 [20,21,22,23,24,25,26,27,28,29] (.jA [.s 31 0 S.length,B _]) [(31,some (.X 1 2 (A S)))] func33 (λ_=>VX) (λ_=>⟨mS,mS,mS,mS,mS,mS,mS,mS,mS,mS,U⟩) (by simp[ED,iC,KE,WA,lD,mp,DA.IB,jB]) ?_
      |refine CA ?_|refine an ?_ ?_|(intro Z;try simp at Z))
     exact⟨PD ⟨[(10,30)],eL [(10,30)] ⟨rfl,U⟩ ⟨gA rfl rfl,U⟩⟩⟩
    ·rw[if_neg TO]at g3
     cases o with
     |false=>
      rw[if_pos rfl]at g3
      subst g3
      repeat' (first
       |refine HD ?_
       |refine cT 35 rfl eA ?_
       |refine cF 42 rfl eA ?_
       |refine cF 52 rfl eA ?_
       |refine cT 55 rfl rfl ?_
       |refine tk ?_
       |refine cz 32 func32 (λ_=>dY W.BA ES) ?_
       |refine cf 33 [20,21,22,23,24,25,26,27,28,29] (.jA [.s 31 0 S.length,B _]) [(31,some (.X 1 2 (A S)))] func33 (λ_=>VX) (λ_=>⟨mS,mS,mS,mS,mS,mS,mS,mS,mS,mS,U⟩) (by simp[ED,iC,KE,WA,lD,mp,DA.IB,jB]) ?_
       |refine CA ?_|refine an ?_ ?_|(intro Z;try simp at Z))
      exact⟨PD ⟨[(10,30)],eL [(10,30)] ⟨rfl,U⟩ ⟨gA rfl rfl,U⟩⟩⟩
     |true=>
      rw[if_neg (by decide)]at g3
      repeat' (first
       |refine cT 35 rfl eA ?_
       |refine cF 42 rfl eA ?_
       |refine cF 52 rfl eA ?_
       |refine cF 55 rfl rfl ?_
       |refine tk ?_
       |refine cz 32 func32 (λ_=>dY W.BA ES) ?_
       |refine cf 33 [20,21,22,23,24,25,26,27,28,29] (.jA [.s 31 0 S.length,B _]) [(31,some (.X 1 2 (A S)))] func33 (λ_=>VX) (λ_=>⟨mS,mS,mS,mS,mS,mS,mS,mS,mS,mS,U⟩) (by simp[ED,iC,KE,WA,lD,mp,DA.IB,jB]) ?_
       |refine CA ?_|refine an ?_ ?_|(intro Z;try simp at Z))
      obtain⟨VB,hX⟩:∃VB,VB=rH W.xB W.GA kB S l:=⟨_,rfl⟩
      rw[<-hX]at g3
      refine FB (sr W kB k S VB) (λs=>S.length-s.1.1) ?_ ?_
      ·exact⟨⟨(0,l),Nat.zero_le _,g1,hX.symm⟩,[(40,31)],U,eL [(40,31)] eF eH⟩
      ·clear hX VX
       rintro⟨⟨q,l'⟩,i1,i2,i3⟩
       intro F H Y hF hH hn;dsimp only[sr]at hF hH hn;subst hF hH hn
       dsimp only at i1 i2 i3
       have ej:0+(q:Int).toNat*1=q:=O
       by_cases hq:q<S.length
       ·obtain⟨t,ht⟩:∃t,t=S.getD (0+(q:Int).toNat*1) 0:=⟨_,rfl⟩
        have ZD:S.drop q=t::S.drop (q+1):=by rw[ht,ej,List.getD_eq_getElem?_getD,List.getElem?_eq_getElem hq];exact List.drop_eq_getElem_cons hq
        rw[ZD]at i3
        unfold rH at i3
        by_cases hu:W.xB<t
        ·rw[if_pos hu]at i3
         subst i3
         rw[if_pos rfl]at g3
         subst g3
         repeat' (first
          |refine HD ?_
          |refine cT 60 rfl eA ?_
          |refine cT 70 rfl (by rw[<-ht,if_pos hd.hu];simp;omega) ?_
          |refine tk ?_
          |refine CA ?_|refine an ?_ ?_|(intro Z;try simp at Z))
         exact⟨PD ⟨[(10,30)],eL [(10,30)] ⟨rfl,U⟩ ⟨gA rfl rfl,U⟩⟩⟩
        ·rw[if_neg hu]at i3
         by_cases ha:W.GA<=t/\l'.length<kB
         ·rw[if_pos ha]at i3
          repeat' (first
           |refine cT 60 rfl eA ?_
           |refine cF 70 rfl (by rw[<-ht,if_pos hd.hu];simp;omega) ?_
           |refine cT 81 rfl (by rw[<-ht,if_pos eA];simp;omega) ?_
           |refine tk ?_
           |refine⟨by simp[JD,rC],wE,O,xE,λ_=>⟨by show _*8<=_;omega,by simp only[maxLen];omega⟩,?_⟩
           |refine CA ?_|refine an ?_ ?_|(intro Z;try simp at Z))
          exact⟨⟨(q+1,l'++[t]),hq,by simp;omega,i3⟩,[(30,42)],show S.length- (q+1)<S.length-q by omega,eL [(30,42)] ⟨rfl,rfl,nC (by simp),eF⟩ ⟨gA rfl rfl,gA rfl (by rw[<-jP,List.take_of_length_le (by simp[JD]),ht];simp[A,DA.cells]),eH⟩⟩
         ·rw[if_neg ha]at i3
          repeat' (first
           |refine cT 60 rfl eA ?_
           |refine cF 70 rfl (by rw[<-ht,if_pos hd.hu];simp;omega) ?_
           |refine cF 81 rfl (by rw[<-ht];simp only[gW];rw[<-Bool.not_eq_true];simp;omega) ?_
           |refine tk ?_
           |refine CA ?_|refine an ?_ ?_|(intro Z;try simp at Z))
          exact⟨⟨(q+1,l'),hq,i2,i3⟩,[],show S.length- (q+1)<S.length-q by omega,eN eF eH⟩
       ·have yD:q=S.length:=O
        rw[yD,List.drop_length]at i3
        unfold rH at i3
        subst i3
        rw[if_neg (by simp)]at g3
        have tr:=zk W hd.ok k ⟨O,O⟩
        by_cases hl:yI W k=true
        ·rw[if_pos hl]at g3
         subst g3
         repeat' (first
          |refine HD ?_
          |refine cF 60 rfl eA ?_
          |refine cT 107 rfl (by refine Eq.trans ?_ hl;unfold yI;simp[hd.hu]) ?_
          |refine tk ?_
          |refine cr 34 [20,21,22,23,24,25,26,27,28,29] func34 (λ_=>tr) (λ_=>ME O rfl rfl rfl rfl rfl rfl rfl rfl rfl rfl U) ?_
          |refine CA ?_|refine an ?_ ?_|(intro Z;try simp at Z))
         exact⟨PD ⟨[(10,30)],eL [(10,30)] ⟨rfl,U⟩ ⟨gA rfl rfl,U⟩⟩⟩
        ·rw[if_neg hl]at g3
         rw[Bool.not_eq_true]at hl
         repeat' (first
          |refine cF 60 rfl eA ?_
          |refine cF 107 rfl (by refine Eq.trans ?_ hl;unfold yI;simp[hd.hu]) ?_
          |refine tk ?_
          |refine cr 34 [20,21,22,23,24,25,26,27,28,29] func34 (λ_=>tr) (λ_=>ME O rfl rfl rfl rfl rfl rfl rfl rfl rfl rfl U) ?_
          |refine CA ?_|refine an ?_ ?_|(intro Z;try simp at Z))
         exact⟨⟨(f,k+1,l'),i2,by dsimp only;omega,g3⟩,[],Nat.lt_succ_self f,eN eF eH⟩
theorem jAA (J:MA) (BD:J.Fits) (hn:0<=J.BA/\J.BA<=255) (u:Bool) (VQ:J.Clean->Fn prog 30 [.agg (EC 0 J)] (jB 0 J++[]) 10 (B u) [] 10) (N:Nat) (hN:N<=1000):
  Fn prog 14 [.agg (EC 0 J),I N] (jB 0 J++[]) 10 (.jA [.s 10 0 (NM J u N).1.length,B (NM J u N).2]) [(10,some (.X 1 2 (A (NM J u N).1)))] 11:=by
 obtain⟨R,hR⟩:∃R,R=NM J u N:=⟨_,rfl⟩
 rw[<-hR]
 obtain⟨c,hc⟩:∃c,c=J.JJ:=⟨_,rfl⟩
 have DO:=Sl J BD hn
 rw[<-hc]at DO
 cases c with
 |false=>
  have hI:R=([],true):=by rw[hR];unfold NM;rw[<-hc];rfl
  subst hI
  refine fm (KA gT) func14 λw W G g=> ?_
  repeat' (first
   |refine HD ?_
   |refine cT 21 rfl rfl ?_
   |refine tk ?_
   |refine cr 12 [0,1,2,3,4,5,6,7,8,9] func12 (λ_=>DO) (λ_=>ME O rfl rfl rfl rfl rfl rfl rfl rfl rfl rfl U) ?_
   |refine cr 30 [0,1,2,3,4,5,6,7,8,9] func30 (λhc=>(by first|exact absurd hc (by decide)|(simp at hc):Fn prog 30 [.agg (EC 0 J)] (jB 0 J++[]) 10 (B false) [] 10)) (λ_=>ME O rfl rfl rfl rfl rfl rfl rfl rfl rfl rfl U) ?_
   |refine CA ?_|refine an ?_ ?_|(intro Z;try simp at Z))
  exact⟨aG 4 1 2 rfl (PD ⟨[(10,11)],eL [(10,11)] ⟨rfl,U⟩ ⟨gA rfl rfl,U⟩⟩)⟩
 |true=>
  have HG:J.Clean:=J.yX.1 hc.symm
  have VQ:=VQ HG
  cases u with
  |true=>
   have hI:R=([],true):=by rw[hR];unfold NM;rw[<-hc];rfl
   subst hI
   refine fm (KA gT) func14 λw W G g=> ?_
   repeat' (first
    |refine HD ?_
    |refine cT 21 rfl rfl ?_
    |refine tk ?_
    |refine cr 12 [0,1,2,3,4,5,6,7,8,9] func12 (λ_=>DO) (λ_=>ME O rfl rfl rfl rfl rfl rfl rfl rfl rfl rfl U) ?_
    |refine cr 30 [0,1,2,3,4,5,6,7,8,9] func30 (λ_=>VQ) (λ_=>ME O rfl rfl rfl rfl rfl rfl rfl rfl rfl rfl U) ?_
    |refine CA ?_|refine an ?_ ?_|(intro Z;try simp at Z))
   exact⟨aG 4 1 2 rfl (PD ⟨[(10,11)],eL [(10,11)] ⟨rfl,U⟩ ⟨gA rfl rfl,U⟩⟩)⟩
  |false=>
   have hI:R=VI J.AA.xB J.GA (UG J.AA) (yI J.AA) (HJ N J.count) (OH J.BA).toNat 0 []:=by rw[hR];unfold NM;rw[<-hc];rfl
   have kK:=HG.count
   have hOk:=gAA BD HG hn.1
   obtain⟨m,d,y,hh,mi,s,cc⟩:=UAA J
   refine fm (KA gT) func14 λw W G g=> ?_
   repeat' (first
    |refine HD ?_
    |refine cF 21 rfl rfl ?_
    |refine pC (x:= .seq (.region 3 _ _) _) [(1, .u (I (HJ N J.count))),(2, .u (.p 10 0)),(4, .u (.v (.slice none 0 0)))] (jB 0 J++[(10,some (.st (EC 0 J)))]) 11 ?_ ?_
    |refine pC (x:= .region 5 _ _) [(1, .u (I (HJ N J.count))),(2, .u (.p 10 0)),(4, .u (.v (.slice none 0 0))),(6, .u (.p 11 0))] (jB 20 J.AA++[(10,some (.st (EC 0 J))),(11,some (.st (EC 20 J.AA)))]) 40 ?_ ?_
    |refine FG 6 ?_
    |refine fW 5 ?_
    |refine tk ?_
    |refine cr 12 [0,1,2,3,4,5,6,7,8,9] func12 (λ_=>DO) (λ_=>ME O rfl rfl rfl rfl rfl rfl rfl rfl rfl rfl U) ?_
    |refine cr 30 [0,1,2,3,4,5,6,7,8,9] func30 (λ_=>VQ) (λ_=>ME O rfl rfl rfl rfl rfl rfl rfl rfl rfl rfl U) ?_
    |refine CA ?_|refine an ?_ ?_|(intro Z;try simp at Z))
   ·exact⟨[],eN ⟨bB (eAA (by assumption)),eF⟩ eH⟩
   ·exact⟨[],eN ⟨bB (fAA O),eF⟩ eH⟩
   ·have h31:=ZAA J hOk cc
    have hw:kr m d y hh mi s=kr m d y hh mi s:=rfl
    have eM:m=false->J.AA.VA=J.VA:=λe=>if_neg (λh=>by have:=cc.m.2 h;rw[e]at this;cases this)
    have eD:d=false->J.AA.TA=J.TA:=λe=>if_neg (λh=>by have:=cc.d.2 h;rw[e]at this;cases this)
    have eY:y=false->J.AA.FA=J.FA:=λe=>if_neg (λh=>by have:=cc.y.2 h;rw[e]at this;cases this)
    have eHo:hh=false->J.AA.SA=J.SA:=λe=>if_neg (λh=>by have:=cc.h.2 h;rw[e]at this;cases this)
    have eI:mi=false->J.AA.PA=J.PA:=λe=>if_neg (λh=>by have:=cc.mi.2 h;rw[e]at this;cases this)
    have eS:s=false->J.AA.RA=J.RA:=λe=>if_neg (λh=>by have:=cc.s.2 h;rw[e]at this;cases this)
    have c4:=cc.ok
    clear cc hI hR DO VQ
    unfold W4 at c4
    rcases c4 with⟨rfl,rfl,rfl⟩|⟨rfl,rfl,rfl⟩|⟨rfl,rfl,rfl⟩|⟨rfl,rfl,rfl⟩
    all_goals (cases hh<;>cases mi<;>cases s)
    all_goals (refine Stop.mk ?_)
    repeat' (first
     |refine tk ?_
     |(refine AB 31 ?_;refine call31 rfl h31 ⟨mS,mS,mS,mS,mS,mS,mS,mS,mS,mS,U⟩ ?_)
     |refine CA ?_|refine an ?_ ?_|(intro Z;try simp at Z))
    all_goals exact Ra hw (eL _ eF (by repeat' (first|exact trivial|refine And.intro (TB rfl (by first|rfl|(simp[DA.cells];done)|(simp[DA.cells];rfl)|(simp[DA.cells,eM,eD,eY,eHo,eI,eS];done))) ?_|refine And.intro rfl ?_)))
   have hd:jr J.AA N (HJ N J.count):=⟨dAA HG hn.1,SW HG,HG.nT,by have:=XE HG.OB;show J.OB.length<=12;omega,by unfold HJ;split<;>omega,rfl,hAA HG⟩
   refine Stop.mk (iAA J J.AA N (HJ N J.count) hd R hI.symm)
end En
end Go.Proofs.YtkidgehblodbcaaGreatDoor
