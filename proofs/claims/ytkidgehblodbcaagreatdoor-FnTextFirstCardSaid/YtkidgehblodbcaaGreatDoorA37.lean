/- A part of the proof of FnTextFirst: a rule is built and its first dates are taken, walked. -/
import Derived.Test.YtkidgehblodbcaaGreatDoorA24
import Derived.Test.YtkidgehblodbcaaGreatDoorA28
import Derived.Test.YtkidgehblodbcaaGreatDoorA33
import Derived.Test.YtkidgehblodbcaaGreatDoorA36
set_option linter.all false
set_option maxRecDepth 100000
set_option maxHeartbeats 16000000
namespace Go.Proofs.YtkidgehblodbcaaGreatDoor
namespace En
open Go.RowKit Go.Proofs.Tryz
section
variable {J:MA} (a:lR J)
include a
theorem Lg {p:Int×Int} (h:p∈(JA J).vA):p∈J.FA/\p.2≠0/\J.BA<=1/\J.kC=true:=by
 have h:p∈J.AA.FA.filter (λd=> !(d.2==0||decide (J.BA>1))):=h
 rw[List.mem_filter]at h
 obtain⟨D,h2⟩:=h
 have h3:p.2≠0/\¬J.BA>1:=by
  constructor
  ·intro e;rw[e]at h2;simp at h2
  ·intro e;rw[decide_eq_true e]at h2;simp at h2
 have D:p∈(if J.kC=false/\J.BA=2 then[(J.GA/86400%7,(0:Int))]else J.FA):=D
 rw[if_neg O]at D
 refine⟨D,h3.1,O,?_⟩
 unfold MA.kC
 have:=List.length_pos_of_mem D
 exact decide_eq_true O
theorem Zs:FO (JA J):=by
 have hc:=a.WJ
 have dk:=Ce a
 have YL:=BP hc a.nn
 obtain⟨l0,l1,l2,l3,l4,l5,l6,l7,l8,l9⟩:=YL.ln
 have IC:=YL.st
 have Ta:J.AA.VA.length<=12:=by
  show(if J.kC=false/\J.BA=0/\J.VA=[]then[KB (J.GA/86400)]else J.VA).length<=12
  split
  ·simp
  ·exact l1
 have aFA:J.AA.TA.length<=12:=by
  show(if J.kC=false/\(J.BA=0\/J.BA=1)then[JC (J.GA/86400)]else J.TA).length<=12
  split
  ·simp
  ·exact l2
 have WBA:J.AA.FA.length<=12:=by
  show(if J.kC=false/\J.BA=2 then[(J.GA/86400%7,(0:Int))]else J.FA).length<=12
  split
  ·simp
  ·exact l5
 have xG:(JA J).vA.length<=12:=Nat.le_trans (List.length_filter_le _ _) WBA
 refine⟨⟨hc.HB,⟨by show J.sA.length<=100;omega,?_⟩,⟨by show J.AA.VA.length<=100;omega,?_⟩,⟨O,?_⟩,?_,?_,⟨by show J.NB.length<=100;omega,?_⟩⟩,?_,⟨by show J.OB.length<=100;omega,?_⟩,?_,?_⟩
 ·intro n hn
  have hn:n∈J.sA:=hn
  have D:=a.Sn (List.length_pos_of_mem hn) n hn
  exact⟨λe=>by(have:=(SH hc.sA hn).2.2 e;cases this),D⟩
 ·intro m hm
  have hm:m∈(if J.kC=false/\J.BA=0/\J.VA=[]then[KB (J.GA/86400)]else J.VA):=hm
  split at hm
  ·rw[List.mem_singleton]at hm;subst hm;exact(TW a).2.1
  ·have:=SH hc.VA hm;omega
 ·intro p hp
  obtain⟨D,h2,h3,h4⟩:=Lg a hp
  have h5:=hc.oP p D
  have hm:0<=J.lF/\J.lF<=53:=by unfold MA.lF;(repeat' split)<;>omega
  unfold lP at h5
  exact⟨O,O,O,O,h2⟩
 ·intro h
  obtain⟨p,hp⟩:∃p,p∈(JA J).vA:=⟨_,List.getElem_mem h⟩
  have:=(Lg a hp).2.2.1
  have:=a.nn
  show J.BA=0\/J.BA=1
  omega
 ·intro h p hp
  obtain⟨D,h2,h3,h4⟩:=Lg a hp
  have h5:=hc.oP p D
  have hn:=a.nn
  have hm:J.lF=5:=by
   unfold MA.lF
   rcases h with h|h
   ·rw[if_pos (.inl h)]
   ·have h:J.AA.VA≠[]:=h
    have e:J.AA.VA=J.VA:=if_neg (λx=>by rw[h4]at x;cases x.1)
    rw[e]at h
    rcases(by omega:J.BA=0\/J.BA=1)with h6|h6
    ·rw[if_pos (.inr ⟨h6,List.length_pos_iff.2 h⟩)]
    ·rw[if_pos (.inl h6)]
  unfold lP at h5
  rw[hm]at h5
  omega
 ·intro o ho
  have:=SH hc.NB (show o∈J.NB from ho)
  omega
 ·refine⟨by show J.AA.VA.length<=1000000;omega,by show J.sA.length<=1000000;omega,?_,by show J.NB.length<=1000000;omega,?_,?_,by show J.LB.length<=1000000;omega⟩
  ·show((J.AA.FA.filter _).map _).length<=1000000
   rw[List.length_map];exact Nat.le_trans (List.length_filter_le _ _) O
  ·exact Nat.le_trans (List.length_filter_le _ _) O
  ·exact Nat.le_trans (List.length_filter_le _ _) O
 ·intro p hp
  have:=SH hc.OB (show p∈J.OB from hp)
  omega
 ·have D:=De a
  have h2:J.AA.GA=J.GA:=rfl
  refine⟨by show 1<=J.AA.xB;omega,?_⟩
  show 0<=(if J.CE=true then(0:Int)else 854775807)
  split<;>omega
 ·exact UW a
theorem XBA {K:Int} {c:CR} (h:fR (qN (JA J) J.BA) (aD J.BA) K c):Live (JA J) c:=by
 have q:=h.p.1
 exact⟨q.y,q.m,q.d,q.hh,q.mi,q.s,q.wd,q.ts,h.AN,q.count,h.so⟩
theorem YBA:Xa (JA J)\/¬J.BA=4:=by
 by_cases h4:J.BA=4
 ·left
  have k:=rN a
  have hi:=a.Be O
  have MM:=UW a
  have lh:=k.lh
  have lm:=k.lm
  have ls:=k.ls
  have hp:=k.prod
  refine⟨⟨MM.1,?_⟩,by show J.AA.SA.length<=1000;omega,⟨by show J.AA.PA.length<=60;omega,k.m⟩,⟨by show J.AA.RA.length<=60;omega,k.s⟩,by show J.AA.PA.length*J.AA.RA.length<=100;omega⟩
  show(if J.IA>1 then J.IA else 1)<=24
  split<;>omega
 ·exact .inr h4
theorem ZBA:Jg (JA J):=by
 have k:=rN a
 have lh:=k.lh
 have lm:=k.lm
 have ls:=k.ls
 exact⟨by show J.AA.SA.length<=1000;omega,by show J.AA.PA.length<=1000;omega,⟨by show J.AA.RA.length<=60;omega,k.s⟩⟩
theorem aBA:Js (JA J):=by
 have k:=rN a
 have lh:=k.lh
 have lm:=k.lm
 have ls:=k.ls
 exact⟨by show J.AA.SA.length<=1000;omega,by show J.AA.PA.length<=1000;omega,by show J.AA.RA.length<=1000;omega⟩
theorem bBA {K:Int} {c:CR} (h:fR (qN (JA J) J.BA) (aD J.BA) K c) (hK:K<=1000000000000000000):
  Fn prog 103 [.p 0 0] (QM (QA (JA J) c) (JA J) 0) 26 (.jA []) (WQ (JA J) 0 (TC (tD J.BA) (JA J) (aD J.BA (WB c)) c)) (gN (TC (tD J.BA) (JA J) (aD J.BA (WB c)) c)):=by
 have lM:=a.nn
 have xH:=a.WJ.BA
 have hr:=Zs a
 have hl:=XBA a h
 have ht:=h.Zd
 obtain⟨q1,q2,q3⟩:=h.p
 rcases(by omega:J.BA=0\/J.BA=1\/J.BA=2\/J.BA=3\/J.BA=4\/J.BA=5\/J.BA=6)with e|e|e|e|e|e|e
 all_goals (rw[e]at ht q2 q3⊢)
 ·exact zAA (JA J) 0 c (jN (WB c)) hr e hl qA (by rw[show aD 0 (WB c)=jN (WB c)from rfl]at ht;omega)
 ·exact FBA (JA J) 0 c (NL (WB c)) hr e hl qA (by rw[show aD 1 (WB c)=NL (WB c)from rfl]at ht;omega)
 ·exact GBA (JA J) 0 c (SG (WB c)) hr e ⟨hl,q2 O⟩ qA (by rw[show aD 2 (WB c)=SG (WB c)from rfl]at ht;omega)
 ·exact JBA (JA J) 0 c (SG (WB c)) hr e ⟨hl,q2 O⟩ qA (by rw[show aD 3 (WB c)=SG (WB c)from rfl]at ht;omega)
 ·exact OBA (JA J) 0 c (kN (WB c)) hr e ((YBA a).resolve_right O) ⟨hl,q2 O,q3 O⟩ qA (by rw[show aD 4 (WB c)=kN (WB c)from rfl]at ht;omega)
 ·exact SBA (JA J) 0 c (lN (WB c)) hr e (ZBA a) ⟨hl,q2 O,q3 O⟩ qA (by rw[show aD 5 (WB c)=lN (WB c)from rfl]at ht;omega)
 ·exact LBA (JA J) 0 c (mN (WB c)) hr e (aBA a) ⟨hl,q2 O,q3 O⟩ qA (by rw[show aD 6 (WB c)=mN (WB c)from rfl]at ht;omega)
end
def rb (J:MA):MA:={J with nH:= !((jC J).GA==0&&(0:Int)==0),GA:=(jC J).GA,CE:= !((jC J).XA==0&&(0:Int)==0),xB:=(jC J).XA}
theorem xDA {J:MA} (h:J.Clean) (hn:0<=J.BA):jC (rb J)=jC J:=by
 have dB:=vX h hn
 have D:=dB.GA
 have e1:(if(rb J).nH=true then(rb J).GA else 0)=(jC J).GA:=by
  show(if(!((jC J).GA==0&&(0:Int)==0))=true then(jC J).GA else 0)=_
  rw[if_pos eA]
 have e2:(if(rb J).CE=true then(rb J).xB else 0)=(jC J).XA:=by
  show(if(!((jC J).XA==0&&(0:Int)==0))=true then(jC J).XA else 0)=_
  by_cases h:(jC J).XA=0
  ·rw[h];rfl
  ·rw[if_pos (by simp[h])]
 show yB.mk (rb J).BA (if(rb J).nH=true then(rb J).GA else 0) (rb J).IA (rb J).HB (rb J).count (if(rb J).CE=true then(rb J).xB else 0) _ _=_
 rw[e1,e2];rfl
def Fh (x:IT) (p a:Nat):List SV:=[I x.y,I x.m,I x.d,I x.hh,I x.mi,I x.s,I x.wd, .p p 0,I x.ly,I x.lm,I x.yl,I x.dG,I x.fy,I 0,I x.yw, .s a 0 x.mm.length, .s (a+1) 0 x.mr.length, .s (a+2) 0 x.md.length, .s (a+3) 0 x.nd.length, .s (a+4) x.yw (x.XC.length-x.yw), .s (a+5) 0 x.wn.length, .s (a+6) 0 x.nw.length, .s (a+7) 0 x.ea.length, .s (a+8) 0 x.ts.length,I x.total,I x.count, .s (a+9) (2*x.so) x.sl, .s (a+9) 0 x.st.length,B x.fin, .s (a+10) 0 x.ds.length]
def gHq (J:MA) (c:CR):HS:=[(12,some (.st (Fh (QA (JA J) c) 13 27))),(13,some (.st (gS J 14))),(27,some (.X 1 3 (A (QA (JA J) c).mm))),(28,some (.X 1 3 (A (QA (JA J) c).mr))),(29,some (.X 1 3 (A (QA (JA J) c).md))),(30,some (.X 1 3 (A (QA (JA J) c).nd))),(31,some (.X 1 3 (A (QA (JA J) c).XC))),(32,some (.X 1 3 (A (QA (JA J) c).wn))),(33,some (.X 1 3 (A (QA (JA J) c).nw))),(34,some (.X 1 3 (A (QA (JA J) c).ea))),(35,some (.X 2 51 (iA (QA (JA J) c).ts))),(36,some (.X 2 51 (iA (QA (JA J) c).st))),(37,some (.X 2 194 (uC (QA (JA J) c).ds))),(14,some (.ro (A (JA J).sp))),(15,some (.ro (A (JA J).bm))),(16,some (.ro (A (JA J).FC))),(17,some (.ro (A (JA J).GC))),(18,some (.ro (A (JA J).PF))),(19,some (.ro (A (JA J).uB))),(20,some (.ro (A (JA J).VC))),(21,some (.ro (xA (JA J).vA))),(22,some (.ro (A (JA J).bh))),(23,some (.ro (A (JA J).bi))),(24,some (.ro (A (JA J).bs))),(25,some (.ro (A (JA J).be)))]
def dHq (st:List Int) (so sl:Nat):HS:=[(12,some (.st (dQ 36 st so sl))),(36,some (.X 2 51 (iA st)))]
def fsH (J:MA):Dv->HS
 | .inl c=>gHq J c
 | .inr (st,so,sl)=>dHq st so sl
def stD:Dv->Prop
 | .inl c=>c.st.length<=40000
 | .inr (st,_,_)=>st.length<=40000
theorem yDA {st E:List Int} (D:st.length<=40000) (h2:E.length<=40000):(nD st E).length<=40000:=by unfold nD;split<;>assumption
theorem mu {QB:RR->CR->Option CR} {r:RR} {P:CR->Prop} {lim:CR->Nat} (h:xI QB r P lim):∀(n:Nat) (c:CR),lim (WB c)<=n->P (WB c)->c.st.length<=40000->
  (match TC QB r n c with
   | .inl c'=>c'.st.length<=40000
   | .inr p=>p.1.length<=40000)
 |0,c,hn,hp,hs=>hs
 |n+1,c,hn,hp,hs=>by
  unfold TC
  by_cases oB:c.sl=0
  ·rw[if_neg (by simp[oB])]
   have hE:=yDA hs (h.len hp)
   by_cases hf:(rE r c).2.2=true
   ·rw[if_pos hf];exact hE
   ·rw[if_neg hf]
    cases D:QB r (rO r c)with
    |none=>exact hE
    |some c'=>
     dsimp only
     obtain⟨q1,q2⟩:=h.step hp D
     obtain⟨k1,_,_,_⟩:=h.eR D
     have k1:c'.st=nD c.st (rE r c).1:=k1
     exact mu h n c' O q1 (by rw[k1];exact hE)
  ·rw[if_pos oB];exact hs
theorem va {LA:Nat->Nat} {H H':HS} (h:lC LA H H':=by repeat' (first|exact trivial|refine And.intro (gA rfl rfl) ?_|refine And.intro (bD rfl rfl) ?_|refine And.intro (dW rfl rfl) ?_|refine And.intro (TB rfl (by first|rfl|(simp[DA.cells];done)|(simp[DA.cells];rfl))) ?_|refine And.intro rfl ?_)):lC LA H H':=h
section
variable {J:MA} (a:lR J)
def kR (J:MA):Int:=40000*(aD J.BA (WB (PC J)):Int)
def nu (J:MA) (N:Nat) (want:List Int):MB {s:Dv×List Int//(xP (qN (JA J) J.BA) (aD J.BA) (kR J) s.1/\stD s.1)/\s.2.length<=N/\s.2++TJ (tD J.BA) (JA J) (aD J.BA) (N-s.2.length) s.1=want}where
 F s:=[(1, .u (I N)),(4, .u (.s 38 0 s.1.2.length)),(8, .u (.fn (.func 51) [.p 12 0] []))]
 H s:=(38,some (.X 1 2 (A s.1.2)))::fsH J s.1.1
 n _:=39
theorem zDA (h:0<=J.BA/\J.BA<=6) (hy:LQ (PC J)):kR J<=1000000000000000000:=by
 have D:=hy.y;have h2:=hy.m;have h3:=hy.d;have h4:=hy.hh;have h5:=hy.mi;have h6:=hy.s
 have hc:=bG (l:=lp (PC J).y) (m:=(PC J).m) (tB _)
 have Z:0<=before (PC J).y:=by unfold before;omega
 unfold kR
 have e:(aD J.BA (WB (PC J)):Int)<=400000000000:=by
  unfold aD
  (repeat' split)
  ·show((10000- (PC J).y).toNat:Int)<=_;omega
  ·show((120001- (12*(PC J).y+(PC J).m)).toNat:Int)<=_;omega
  ·show((4000000-NA (PC J).y (PC J).m (PC J).d).toNat:Int)<=_;unfold NA;omega
  ·show((4000000-NA (PC J).y (PC J).m (PC J).d).toNat:Int)<=_;unfold NA;omega
  ·show((24*4000000- (24*NA (PC J).y (PC J).m (PC J).d+(PC J).hh)).toNat:Int)<=_;unfold NA;omega
  ·show((1440*4000000- (1440*NA (PC J).y (PC J).m (PC J).d+(60*(PC J).hh+(PC J).mi))).toNat:Int)<=_;unfold NA;omega
  ·show((86400*4000000- (86400*NA (PC J).y (PC J).m (PC J).d+(3600*(PC J).hh+60*(PC J).mi+(PC J).s))).toNat:Int)<=_;unfold NA;omega
 omega
include a
theorem AEA {N:Nat} (hN:N<=1000):Fn prog 10 [.agg (iL 0 5 J.FA.length (jC J)),I N] (QP 0 (jC J)++[]) 10 (.jA [.s 10 0 (TJ (tD J.BA) (JA J) (aD J.BA) N (.inl (PC J))).length,B true]) [(10,some (.X 1 2 (A (TJ (tD J.BA) (JA J) (aD J.BA) N (.inl (PC J))))))] 11:=by
 have hc:=a.WJ
 have hn:=a.nn
 have xH:=hc.BA
 have cb:=BP hc hn
 have hl:=uf a
 have hk:=rN a
 have ou:=ir a
 have hK:=zDA ⟨hn,xH⟩ hl
 have dJ:=hc.mP
 have h17:Fn prog 17 [.agg (iL 0 5 J.FA.length (jC J))] (jB 0 J++[]) 10 (.agg (wU 0 10 J.FA.length (jC J))) [(10,some (.X 2 53 (xA J.FA)))] 11:=by
  have h:=bu (rb J) (show 0<=J.BA/\J.BA<=255 by omega) (show J.FA.length<=1000 by omega)
  rw[xDA hc hn]at h
  exact h
 have wX:Fn prog 16 [.agg (tE 0 (jC J))] (ku J++[]) 10 (.jA [.p 10 0, .v .nilIface]) ((10,some (.st (gS J 11)))::rR J 11) 24:=by
  have h:=tDA J hc hn
  rw[<-ua hc.nH]at h
  exact h
 have Mg:=fBA J cb.st (Zs a).rb ⟨hn,xH⟩ ⟨by have:=hk.lh;show J.AA.SA.length<=60;omega,by have:=hk.lm;show J.AA.PA.length<=60;omega,by have:=hk.ls;show J.AA.RA.length<=60;omega,by have:=hk.prod;show J.AA.PA.length*J.AA.RA.length<=100;omega,hk.m,hk.s⟩
 obtain⟨want,hw⟩:∃want,want=TJ (tD J.BA) (JA J) (aD J.BA) N (.inl (PC J)):=⟨_,rfl⟩
 rw[<-hw]
 have BEA:xP (qN (JA J) J.BA) (aD J.BA) (kR J) (.inl (PC J)):=⟨gr a,Nat.le_refl 0,λ_=>rfl,Int.le_refl 0,by show(0:Int)+40000*(aD J.BA (WB (PC J)):Int)<=kR J;unfold kR;omega⟩
 refine fm (KA 2164525047) func10 λw W G g=> ?_
 repeat' (first
  |refine AD (t:=18) false rfl rfl (And.intro (λh=>by cases h) (λ_=> ?_))
  |refine tk ?_
  |(refine AB 17 ?_;refine cA.F [0,1,2,3,4,5,6,7,8,9] (s:= .agg (wU 0 11 J.FA.length (jC J))) (wh:=[(11,some (.X 2 53 (xA J.FA)))]) func17 rfl rfl (λ_=>h17) rfl rfl (λ_=>⟨cB,cB,cB,cB,cB,cB,cB,cB,cB,cB,U⟩) rfl (by show[(_,some (DA.X 2 53 (YA _ (xA _))))]=_;rw[SC];try rfl) ?_)
  |(refine AB 16 ?_;refine cA.F [0,1,2,3,4,11,6,7,8,9] (s:= .jA [.p 13 0, .v .nilIface]) (wh:=[(0,none),(1,none),(2,none),(3,none),(4,none),(11,none),(6,none),(7,none),(8,none),(9,none),(13,some (.st (gS J 14))),(14,some (.X 1 3 (A (JA J).sp))),(15,some (.X 1 3 (A (JA J).bm))),(16,some (.X 1 3 (A (JA J).FC))),(17,some (.X 1 3 (A (JA J).GC))),(18,some (.X 1 3 (A (JA J).PF))),(19,some (.X 1 3 (A (JA J).uB))),(20,some (.X 1 3 (A (JA J).VC))),(21,some (.X 2 53 (xA (JA J).vA))),(22,some (.X 1 3 (A (JA J).bh))),(23,some (.X 1 3 (A (JA J).bi))),(24,some (.X 1 3 (A (JA J).bs))),(25,some (.X 1 3 (A (JA J).be))),(26,some (.X 2 51 (iA (JA J).ts)))]) func16 rfl rfl (λ_=>wX) rfl rfl (λ_=>⟨wB,wB,wB,wB,wB,by show _=some (DA.X 2 53 (YA _ (xA _)));rw[SC];rfl,wB,wB,wB,wB,U⟩) rfl (by show[(0,none),(1,none),(2,none),(3,none),(4,none),(11,none),(6,none),(7,none),(8,none),(9,none),(13,some (DA.st (YA _ _))),(14,some (DA.X 1 3 (YA _ (A _)))),(15,some (DA.X 1 3 (YA _ (A _)))),(16,some (DA.X 1 3 (YA _ (A _)))),(17,some (DA.X 1 3 (YA _ (A _)))),(18,some (DA.X 1 3 (YA _ (A _)))),(19,some (DA.X 1 3 (YA _ (A _)))),(20,some (DA.X 1 3 (YA _ (A _)))),(21,some (DA.X 2 53 (YA _ (xA _)))),(22,some (DA.X 1 3 (YA _ (A _)))),(23,some (DA.X 1 3 (YA _ (A _)))),(24,some (DA.X 1 3 (YA _ (A _)))),(25,some (DA.X 1 3 (YA _ (A _)))),(26,some (DA.X 2 51 (YA _ (iA _))))]=_;simp only[kD,SC];try rfl) ?_)
  |(refine AB 22 ?_;refine cA.F [12,13,14,15,16,17,18,19,20,21,22,23,24,25,26] (s:= .fn (.func 51) [.p 28 0] []) (wh:=[(13,some (.st (gS J 14))),(26,none),(28,some (.st (Fh (QA (JA J) (PC J)) 13 29))),(29,some (.X 1 3 (A (QA (JA J) (PC J)).mm))),(30,some (.X 1 3 (A (QA (JA J) (PC J)).mr))),(31,some (.X 1 3 (A (QA (JA J) (PC J)).md))),(32,some (.X 1 3 (A (QA (JA J) (PC J)).nd))),(33,some (.X 1 3 (A (QA (JA J) (PC J)).XC))),(34,some (.X 1 3 (A (QA (JA J) (PC J)).wn))),(35,some (.X 1 3 (A (QA (JA J) (PC J)).nw))),(36,some (.X 1 3 (A (QA (JA J) (PC J)).ea))),(37,some (.X 2 51 (iA (QA (JA J) (PC J)).ts))),(38,some (.X 2 51 (iA (QA (JA J) (PC J)).st))),(39,some (.X 2 194 (uC (QA (JA J) (PC J)).ds)))]) func22 rfl rfl (λ_=>Mg) rfl rfl (λ_=>⟨rfl,by show _=some (DA.X 2 51 (YA _ (iA _)));rw[SC];rfl,cB,cB,cB,cB,cB,cB,cB,cB,cB,cB,cB,cB,U⟩) rfl (by show[(13,some (DA.st (YA _ _))),(26,none),(28,some (DA.st (YA _ _))),(29,some (DA.X 1 3 (YA _ (A _)))),(30,some (DA.X 1 3 (YA _ (A _)))),(31,some (DA.X 1 3 (YA _ (A _)))),(32,some (DA.X 1 3 (YA _ (A _)))),(33,some (DA.X 1 3 (YA _ (A _)))),(34,some (DA.X 1 3 (YA _ (A _)))),(35,some (DA.X 1 3 (YA _ (A _)))),(36,some (DA.X 1 3 (YA _ (A _)))),(37,some (DA.X 2 51 (YA _ (iA _)))),(38,some (DA.X 2 51 (YA _ (iA _)))),(39,some (DA.X 2 194 (YA _ (uC _))))]=_;simp only[kD,SC,BK];try rfl) ?_)
  |refine CA ?_|refine an ?_ ?_|(intro Z;try simp at Z))
 refine aG 4 1 2 rfl ?_
 refine FB (nu J N want) (λs=>N-s.1.2.length) ?_ ?_
 ·exact⟨⟨(.inl (PC J),[]),⟨BEA,Nat.zero_le _⟩,Nat.zero_le _,by rw[hw];rfl⟩,[(12,28),(27,29),(28,30),(29,31),(30,32),(31,33),(32,34),(33,35),(34,36),(35,37),(36,38),(37,39),(38,41)],U,eL _ eF va⟩
 ·rintro⟨⟨d,l⟩,⟨hd,IC⟩,gR,he⟩
  intro F H Y hF hH hn;dsimp only[nu]at hF hH hn;subst hF hH hn
  dsimp only at hd IC gR he
  by_cases fA:l.length<N
  ·obtain⟨n,hn'⟩:∃n,N-l.length=n+1:=⟨N-l.length-1,O⟩
   have mO:∀t:Int,N- (l++[t]).length=n:=λt=>by rw[List.length_append,List.length_singleton];omega
   have xU:∀t:Int,(l++[t]).length=l.length+1:=λt=>by simp
   rw[hn']at he
   unfold TJ at he
   obtain⟨g1,g2,g3⟩:=Zm ou hd
   obtain⟨p1,p2⟩:=jm (QB:=tD J.BA) (r:=JA J) g1 g3
   clear p2 g2
   match d,hd,IC,he,g1,g3,p1 with
   | .inl c,hd,IC,he,g1,g3,p1=>
    have KP:=bBA a hd hK
    have wa:=mu ou (aD J.BA (WB c)) c qA hd.p IC
    cases hg:TC (tD J.BA) (JA J) (aD J.BA (WB c)) c with
    |inl c'=>
     have eg:zL (tD J.BA) (JA J) (aD J.BA) (.inl c)= .inl c':=by
      show(match TC (tD J.BA) (JA J) (aD J.BA (WB c)) c with| .inl c'=>(.inl c':Dv)| .inr p=> .inr (p.1,0,p.2))=_
      rw[hg]
     rw[eg]at g1 g3 p1 he
     rw[hg]at KP wa
     have h0:=g3 c' rfl
     have ep:xJ (.inl c')=(some (c'.st.getD c'.so 0), .inl {c' with so:=LD c'.so c'.sl,sl:=c'.sl-1}):=if_neg h0
     rw[ep]at p1 he
     have Gh:fR (qN (JA J) J.BA) (aD J.BA) (kR J) c':=g1
     have iB:c'.st.length<=40000:=wa
     have RP:=VBA (JA J) 0 c c' KP O Gh.le O
     repeat' (first
      |refine AD (t:=24) true rfl eA (And.intro (λ_=> ?_) (λh=>by cases h))
      |refine AD (t:=31) false rfl rfl (And.intro (λh=>by cases h) (λ_=> ?_))
      |refine tk ?_
      |(refine AB 51 ?_;refine cA.F [12,13,14,15,16,17,18,19,20,21,22,23,24,25,26,27,28,29,30,31,32,33,34,35,36,37] (s:= .jA [Tm (c'.st.getD c'.so 0),B true]) (wh:=[(12,some (.st (Fh (QA (JA J) {c' with so:=LD c'.so c'.sl,sl:=c'.sl-1}) 13 39))),(13,some (.st (gS J 14))),(27,none),(28,none),(29,none),(30,none),(31,none),(32,none),(33,none),(34,none),(35,none),(36,none),(37,none),(39,some (.X 1 3 (A (QA (JA J) {c' with so:=LD c'.so c'.sl,sl:=c'.sl-1}).mm))),(40,some (.X 1 3 (A (QA (JA J) {c' with so:=LD c'.so c'.sl,sl:=c'.sl-1}).mr))),(41,some (.X 1 3 (A (QA (JA J) {c' with so:=LD c'.so c'.sl,sl:=c'.sl-1}).md))),(42,some (.X 1 3 (A (QA (JA J) {c' with so:=LD c'.so c'.sl,sl:=c'.sl-1}).nd))),(43,some (.X 1 3 (A (QA (JA J) {c' with so:=LD c'.so c'.sl,sl:=c'.sl-1}).XC))),(44,some (.X 1 3 (A (QA (JA J) {c' with so:=LD c'.so c'.sl,sl:=c'.sl-1}).wn))),(45,some (.X 1 3 (A (QA (JA J) {c' with so:=LD c'.so c'.sl,sl:=c'.sl-1}).nw))),(46,some (.X 1 3 (A (QA (JA J) {c' with so:=LD c'.so c'.sl,sl:=c'.sl-1}).ea))),(47,some (.X 2 51 (iA (QA (JA J) {c' with so:=LD c'.so c'.sl,sl:=c'.sl-1}).ts))),(48,some (.X 2 51 (iA (QA (JA J) {c' with so:=LD c'.so c'.sl,sl:=c'.sl-1}).st))),(49,some (.X 2 194 (uC (QA (JA J) {c' with so:=LD c'.so c'.sl,sl:=c'.sl-1}).ds)))]) func51 rfl rfl (λ_=>RP) rfl rfl (λ_=>⟨rfl,rfl,wB,wB,wB,wB,wB,wB,wB,wB,by show _=some (DA.X 2 51 (YA _ (iA _)));rw[SC];rfl,by show _=some (DA.X 2 51 (YA _ (iA _)));rw[SC];rfl,by show _=some (DA.X 2 194 (YA _ (uC _)));rw[BK];rfl,cB,cB,cB,cB,cB,cB,cB,cB,cB,cB,cB,cB,U⟩) rfl (by show[(12,some (DA.st (YA _ _))),(13,some (DA.st (YA _ _))),(27,none),(28,none),(29,none),(30,none),(31,none),(32,none),(33,none),(34,none),(35,none),(36,none),(37,none),(39,some (DA.X 1 3 (YA _ (A _)))),(40,some (DA.X 1 3 (YA _ (A _)))),(41,some (DA.X 1 3 (YA _ (A _)))),(42,some (DA.X 1 3 (YA _ (A _)))),(43,some (DA.X 1 3 (YA _ (A _)))),(44,some (DA.X 1 3 (YA _ (A _)))),(45,some (DA.X 1 3 (YA _ (A _)))),(46,some (DA.X 1 3 (YA _ (A _)))),(47,some (DA.X 2 51 (YA _ (iA _)))),(48,some (DA.X 2 51 (YA _ (iA _)))),(49,some (DA.X 2 194 (YA _ (uC _))))]=_;simp only[kD,SC,BK];try rfl) ?_)
      |refine cz 23 func23 (λ_=>VW (c'.st.getD c'.so 0) 0) ?_
      |refine⟨(by(try dsimp only);simp[JD];try omega),Nat.le_of_ble_eq_true rfl,O,λ_=>(by intro sv YC;have iB:sv∈[I (c'.st.getD c'.so 0)]:=YC;simp at iB;subst iB;rfl),λ_=>(by show(_+1)*8<=140737488355328/\_+1<=maxLen;dsimp only[maxLen];omega),?_⟩
      |refine CA ?_|refine an ?_ ?_|(intro Z;try simp at Z))
     refine⟨⟨(.inl {c' with so:=LD c'.so c'.sl,sl:=c'.sl-1},l++[c'.st.getD c'.so 0]),⟨p1,iB⟩,by rw[xU];omega,by rw[mO,List.append_assoc];exact he⟩,[(27,39),(28,40),(29,41),(30,42),(31,43),(32,44),(33,45),(34,46),(35,47),(36,48),(37,49),(38,53)],by show N- (l++[c'.st.getD c'.so 0]).length<N-l.length;rw[mO];omega,eL _ ⟨rfl,by show lk _ 4=some (.u (.s 53 0 (l++[_]).length));rw[xU];rfl,rfl,U⟩ ⟨gA rfl (wN rfl),va⟩⟩
    |inr p=>
     obtain⟨st,sl⟩:=p
     have eg:zL (tD J.BA) (JA J) (aD J.BA) (.inl c)= .inr (st,0,sl):=by
      show(match TC (tD J.BA) (JA J) (aD J.BA (WB c)) c with| .inl c'=>(.inl c':Dv)| .inr p=> .inr (p.1,0,p.2))=_
      rw[hg]
     rw[eg]at g1 g3 p1 he
     rw[hg]at KP wa
     have Gh:0+sl<=st.length/\(sl=0->0=0):=g1
     have iB:st.length<=40000:=wa
     by_cases h0:sl=0
     ·have ep:xJ (.inr (st,0,sl))=(none, .inr (st,0,sl)):=if_pos h0
      rw[ep]at he
      have RP:=Ys (JA J) 0 c st sl 0 sl 0 false KP (Vs st 0 sl h0)
      repeat' (first
       |refine AD (t:=24) true rfl eA (And.intro (λ_=> ?_) (λh=>by cases h))
       |refine AD (t:=31) true rfl rfl (And.intro (λ_=> ?_) (λh=>by cases h))
       |refine tk ?_
       |(refine AB 51 ?_;refine cA.F [12,13,14,15,16,17,18,19,20,21,22,23,24,25,26,27,28,29,30,31,32,33,34,35,36,37] (s:= .jA [Tm 0,B false]) (wh:=[(12,some (.st (dQ 39 st (0) (sl)))),(13,none),(27,none),(28,none),(29,none),(30,none),(31,none),(32,none),(33,none),(34,none),(35,none),(36,none),(37,none),(39,some (.X 2 51 (iA st)))]) func51 rfl rfl (λ_=>RP) rfl rfl (λ_=>⟨rfl,rfl,wB,wB,wB,wB,wB,wB,wB,wB,by show _=some (DA.X 2 51 (YA _ (iA _)));rw[SC];rfl,by show _=some (DA.X 2 51 (YA _ (iA _)));rw[SC];rfl,by show _=some (DA.X 2 194 (YA _ (uC _)));rw[BK];rfl,cB,cB,cB,cB,cB,cB,cB,cB,cB,cB,cB,cB,U⟩) rfl (by show[(12,some (DA.st (YA _ _))),(13,none),(27,none),(28,none),(29,none),(30,none),(31,none),(32,none),(33,none),(34,none),(35,none),(36,none),(37,none),(39,some (DA.X 2 51 (YA _ (iA _))))]=_;simp only[kD,SC,BK];try rfl) ?_)
       |refine CA ?_|refine an ?_ ?_|(intro Z;try simp at Z))
      have e:l=want:=by rw[<-he];simp
      subst e
      exact⟨[(10,38)],eL _ ⟨rfl,U⟩ ⟨gA rfl rfl,U⟩⟩
     ·have ep:xJ (.inr (st,0,sl))=(some (st.getD 0 0), .inr (st,LD 0 sl,sl-1)):=if_neg h0
      rw[ep]at p1 he
      have RP:=Ys (JA J) 0 c st sl (LD 0 sl) (sl-1) (st.getD 0 0) true KP (Ws st 0 sl O Gh.1 O)
      repeat' (first
       |refine AD (t:=24) true rfl eA (And.intro (λ_=> ?_) (λh=>by cases h))
       |refine AD (t:=31) false rfl rfl (And.intro (λh=>by cases h) (λ_=> ?_))
       |refine tk ?_
       |(refine AB 51 ?_;refine cA.F [12,13,14,15,16,17,18,19,20,21,22,23,24,25,26,27,28,29,30,31,32,33,34,35,36,37] (s:= .jA [Tm (st.getD 0 0),B true]) (wh:=[(12,some (.st (dQ 39 st (LD 0 sl) (sl-1)))),(13,none),(27,none),(28,none),(29,none),(30,none),(31,none),(32,none),(33,none),(34,none),(35,none),(36,none),(37,none),(39,some (.X 2 51 (iA st)))]) func51 rfl rfl (λ_=>RP) rfl rfl (λ_=>⟨rfl,rfl,wB,wB,wB,wB,wB,wB,wB,wB,by show _=some (DA.X 2 51 (YA _ (iA _)));rw[SC];rfl,by show _=some (DA.X 2 51 (YA _ (iA _)));rw[SC];rfl,by show _=some (DA.X 2 194 (YA _ (uC _)));rw[BK];rfl,cB,cB,cB,cB,cB,cB,cB,cB,cB,cB,cB,cB,U⟩) rfl (by show[(12,some (DA.st (YA _ _))),(13,none),(27,none),(28,none),(29,none),(30,none),(31,none),(32,none),(33,none),(34,none),(35,none),(36,none),(37,none),(39,some (DA.X 2 51 (YA _ (iA _))))]=_;simp only[kD,SC,BK];try rfl) ?_)
       |refine cz 23 func23 (λ_=>VW (st.getD 0 0) 0) ?_
       |refine⟨(by(try dsimp only);simp[JD];try omega),Nat.le_of_ble_eq_true rfl,O,λ_=>(by intro sv YC;have iB:sv∈[I (st.getD 0 0)]:=YC;simp at iB;subst iB;rfl),λ_=>(by show(_+1)*8<=140737488355328/\_+1<=maxLen;dsimp only[maxLen];omega),?_⟩
       |refine CA ?_|refine an ?_ ?_|(intro Z;try simp at Z))
      refine⟨⟨(.inr (st,LD 0 sl,sl-1),l++[st.getD 0 0]),⟨p1,iB⟩,by rw[xU];omega,by rw[mO,List.append_assoc];exact he⟩,[(36,39),(38,43)],by show N- (l++[st.getD 0 0]).length<N-l.length;rw[mO];omega,eL _ ⟨rfl,by show lk _ 4=some (.u (.s 43 0 (l++[_]).length));rw[xU];rfl,rfl,U⟩ ⟨gA rfl (wN rfl),va⟩⟩
   | .inr (st,so,sl),hd,IC,he,g1,g3,p1=>
    have eg:zL (tD J.BA) (JA J) (aD J.BA) (.inr (st,so,sl))= .inr (st,so,sl):=rfl
    rw[eg]at g1 g3 p1 he
    have hd':so+sl<=st.length/\(sl=0->so=0):=hd
    have iB:st.length<=40000:=IC
    by_cases h0:sl=0
    ·have ep:xJ (.inr (st,so,sl))=(none, .inr (st,so,sl)):=if_pos h0
     rw[ep]at he
     have RP:=Xs st so sl so sl 0 false (Vs st so sl h0)
     repeat' (first
      |refine AD (t:=24) true rfl eA (And.intro (λ_=> ?_) (λh=>by cases h))
      |refine AD (t:=31) true rfl rfl (And.intro (λ_=> ?_) (λh=>by cases h))
      |refine tk ?_
      |(refine AB 51 ?_;refine cA.F [12,13,14,15,16,17,18,19,20,21,22,23,24,25,26,27,28,29,30,31,32,33,34,35,36,37] (s:= .jA [Tm 0,B false]) (wh:=[(12,some (.st (dQ 36 st (so) (sl)))),(36,some (.X 2 51 (iA st)))]) func51 rfl rfl (λ_=>RP) rfl rfl (λ_=>⟨rfl,by show _=some (DA.X 2 51 (YA _ (iA _)));rw[SC];rfl,U⟩) rfl (by show[(12,some (DA.st (YA _ _))),(36,some (DA.X 2 51 (YA _ (iA _))))]=_;simp only[SC];try rfl) ?_)
      |refine CA ?_|refine an ?_ ?_|(intro Z;try simp at Z))
     have e:l=want:=by rw[<-he];simp
     subst e
     exact⟨[(10,38)],eL _ ⟨rfl,U⟩ ⟨gA rfl rfl,U⟩⟩
    ·have ep:xJ (.inr (st,so,sl))=(some (st.getD so 0), .inr (st,LD so sl,sl-1)):=if_neg h0
     rw[ep]at p1 he
     have RP:=Xs st so sl (LD so sl) (sl-1) (st.getD so 0) true (Ws st so sl O hd'.1 O)
     repeat' (first
      |refine AD (t:=24) true rfl eA (And.intro (λ_=> ?_) (λh=>by cases h))
      |refine AD (t:=31) false rfl rfl (And.intro (λh=>by cases h) (λ_=> ?_))
      |refine tk ?_
      |(refine AB 51 ?_;refine cA.F [12,13,14,15,16,17,18,19,20,21,22,23,24,25,26,27,28,29,30,31,32,33,34,35,36,37] (s:= .jA [Tm (st.getD so 0),B true]) (wh:=[(12,some (.st (dQ 36 st (LD so sl) (sl-1)))),(36,some (.X 2 51 (iA st)))]) func51 rfl rfl (λ_=>RP) rfl rfl (λ_=>⟨rfl,by show _=some (DA.X 2 51 (YA _ (iA _)));rw[SC];rfl,U⟩) rfl (by show[(12,some (DA.st (YA _ _))),(36,some (DA.X 2 51 (YA _ (iA _))))]=_;simp only[SC];try rfl) ?_)
      |refine cz 23 func23 (λ_=>VW (st.getD so 0) 0) ?_
      |refine⟨(by(try dsimp only);simp[JD];try omega),Nat.le_of_ble_eq_true rfl,O,λ_=>(by intro sv YC;have iB:sv∈[I (st.getD so 0)]:=YC;simp at iB;subst iB;rfl),λ_=>(by show(_+1)*8<=140737488355328/\_+1<=maxLen;dsimp only[maxLen];omega),?_⟩
      |refine CA ?_|refine an ?_ ?_|(intro Z;try simp at Z))
     refine⟨⟨(.inr (st,LD so sl,sl-1),l++[st.getD so 0]),⟨p1,iB⟩,by rw[xU];omega,by rw[mO,List.append_assoc];exact he⟩,[(38,42)],by show N- (l++[st.getD so 0]).length<N-l.length;rw[mO];omega,eL _ ⟨rfl,by show lk _ 4=some (.u (.s 42 0 (l++[_]).length));rw[xU];rfl,rfl,U⟩ ⟨gA rfl (wN rfl),va⟩⟩
  ·have e:l=want:=by rw[<-he,show N-l.length=0 by omega];simp[TJ]
   subst e
   repeat' (first
    |refine AD (t:=24) false rfl eA (And.intro (λh=>by cases h) (λ_=> ?_))
    |refine tk ?_
    |refine CA ?_|refine an ?_ ?_|(intro Z;try simp at Z))
   exact⟨[(10,38)],eL _ ⟨rfl,U⟩ ⟨gA rfl rfl,U⟩⟩
end
end En
end Go.Proofs.YtkidgehblodbcaaGreatDoor
