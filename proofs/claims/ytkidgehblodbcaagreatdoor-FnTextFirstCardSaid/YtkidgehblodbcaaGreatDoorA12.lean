/- A part of the proof of FnTextFirst: the calendar's rebuild, walked. -/
import Derived.Test.YtkidgehblodbcaaGreatDoorA11
set_option linter.all false
set_option maxRecDepth 100000
set_option maxHeartbeats 16000000
namespace Go.Proofs.YtkidgehblodbcaaGreatDoor
namespace En
open Go.RowKit Go.Proofs.Tryz
def SF (C:Cx) (F':FS) (H':HS) (n':Nat) (Q:QT):QT
 | .normal,F,H,Y=>∀c Q',T C c F' H' n' Q'->T C c F H Y Q'
 |e,F,H,Y=>Q e F H Y
theorem G8 {C:Cx} {x y:Code} {F:FS} {H:HS} {Y:Nat} {Q:QT} (F':FS) (H':HS) (n':Nat) (h:T C x F H Y (SF C F' H' n' Q)) (hr:T C y F' H' n' Q):T C (.seq x y) F H Y Q:=
 ii (ZO h λe F H Y hq=>by cases e<;>first|exact hq _ _ hr|exact hq)
theorem RFA {C:Cx} {x y:Code} {F:FS} {H:HS} {Y:Nat} {F':FS} {H':HS} {n':Nat} {F2:FS} {H2:HS} {n2:Nat} {Q:QT} {l:List (Nat×Nat)} (h:T C x F' H' n' (SF C F2 H2 n2 Q)) (he:OA C l F H Y F' H' n') (hr:T C y F2 H2 n2 Q):T C (.seq x y) F H Y Q:=
 G8 F2 H2 n2 (mB he h) hr
theorem H8 {C:Cx} {F:FS} {H:HS} {Y:Nat} {F':FS} {H':HS} {n':Nat} {l:List (Nat×Nat)} (he:OA C l F H Y F' H' n'):∀c Q',T C c F' H' n' Q'->T C c F H Y Q':=λ_ _ h=>mB he h
theorem I8 {C:Cx} {F':FS} {H':HS} {n':Nat} {Q:QT} {e:Exit} {F:FS} {H:HS} {Y:Nat} (h:yE C F' H' n' Q e F H Y):SF C F' H' n' Q e F H Y:=by
 cases e<;>first|exact h|(obtain⟨l,hl⟩:=h;exact H8 hl)
theorem toT {C:Cx} {x:Code} {F:FS} {H:HS} {Y:Nat} {F':FS} {H':HS} {n':Nat} {Q:QT} (h:T C x F H Y (yE C F' H' n' Q)):T C x F H Y (SF C F' H' n' Q):=ZO h λ_ _ _ _ hq=>I8 hq
theorem FJ {C:Cx} {x y:Code} {F:FS} {H:HS} {Y:Nat} {F':FS} {H':HS} {n':Nat} {F2:FS} {H2:HS} {n2:Nat} {Q:QT} {l:List (Nat×Nat)} (h:T C x F' H' n' (yE C F2 H2 n2 (rL C y Q))) (he:OA C l F H Y F' H' n') (hr:T C y F2 H2 n2 Q):T C x F H Y (rL C y Q):=
 mB he (ZO h λe F H Y hq=>by
  cases e<;>first|exact hq|(obtain⟨l,hl⟩:=hq;exact mB hl hr))
theorem EH {C:Cx} {x y:Code} {F:FS} {H:HS} {Y:Nat} {F':FS} {H':HS} {n':Nat} {F2:FS} {H2:HS} {n2:Nat} {Q:QT} {l:List (Nat×Nat)} (h:T C x F' H' n' (SF C F2 H2 n2 (rL C y Q))) (he:OA C l F H Y F' H' n') (hr:T C y F2 H2 n2 Q):T C x F H Y (rL C y Q):=
 mB he (ZO h λe F H Y hq=>by
  cases e<;>first|exact hq _ _ hr|exact hq)
theorem J8 {C:Cx} {x:Code} {F:FS} {H:HS} {Y:Nat} {F2:FS} {H2:HS} {n2:Nat} {F':FS} {H':HS} {n':Nat} {Q:QT} {l:List (Nat×Nat)} (h:T C x F H Y (yE C F2 H2 n2 Q)) (he:OA C l F2 H2 n2 F' H' n'):T C x F H Y (SF C F' H' n' Q):=ZO h λe F H Y hq=>by
 cases e<;>first|exact hq|(obtain⟨l,hl⟩:=hq;exactλ_ _ h=>mB hl (mB he h))
theorem pK {C:Cx} {c:Code} {l:List (Nat×Nat)} {F:FS} {H:HS} {Y:Nat} {F':FS} {H':HS} {n':Nat} {Q:QT} (ht:T C c F' H' n' Q) (h:OA C l F H Y F' H' n'):T C c F H Y Q:=mB h ht
theorem K8 (yw:Nat) (wk fw n1 nw:Int) (l:List Int):YJ yw wk fw n1 nw l=l.flatMap (wQ yw wk fw n1 nw):=rfl
theorem oZ (l:List Int) (a b:List Nat):marks (marks l a) b=marks l (a++b):=by simp[marks,List.foldl_append]
theorem uW (y:Int):(LL y).length=(372+lp y).toNat:=by simp[LL];omega
theorem L8 {y wk q:Int} (h:0<=wk/\wk<=6) (D:1<=q) (h2:q<=WD y wk):0<=QI (cE y wk) (iE y wk) q/\QI (cE y wk) (iE y wk) q+7<=372+lp y:=by
 have Z:=XR y wk
 have qC:=XR (y+1) wk
 have hf:=EW y wk
 have JL:=yY (y:=y) h
 by_cases hq:1<q
 ·rw[xl hq];omega
 ·have e0:QI (cE y wk) (iE y wk) q=iE y wk:=by unfold QI;rw[if_neg O]
  have hn:=FW (y:=y) h
  have:=tB y
  rw[e0];unfold iE;split<;>omega
theorem M8 {y wk:Int} (h:0<=wk/\wk<=6):(if iE y wk≠cE y wk then iE y wk+WD y wk*7- (7-cE y wk)else iE y wk+WD y wk*7)=GD y wk+7*WD y wk/\CG (before y%7).toNat (GD y wk+7*WD y wk) wk=7:=by
 constructor
 ·unfold iE GD cE;(repeat' split)<;>omega
 ·have e:(wk- (((before y%7).toNat:Int)+(GD y wk+7*WD y wk))-1)%7=6:=by unfold GD cE;split<;>omega
  unfold CG sM;rw[e];rfl
theorem qp {x:IT} {r:RR} {len y:Int} {n:Nat} {ys:List SV} (er:ys=A (LL y)) (e0:n=(LL y).length):
  lC (sig [] 32 (31+1)) [(0,some (.st [I x.y,I x.m,I x.d,I x.hh,I x.mi,I x.s,I x.wd, .p 1 0,I x.ly,I x.lm,I x.yl,I x.dG,I x.fy,I 0,I x.yw, .s 26 0 x.mm.length, .s 27 0 x.mr.length, .s 28 0 x.md.length, .s 29 0 x.nd.length, .s 30 x.yw (x.XC.length-x.yw), .s 31 0 n, .s 21 0 x.nw.length, .s 22 0 x.ea.length, .s 23 0 x.ts.length,I x.total,I x.count, .s 24 (2*x.so) x.sl, .s 24 0 x.st.length,B x.fin, .s 25 0 x.ds.length])),(1,some (.ro (QE r len))),(7,some (.ro (A r.uB))),(20,some (.X 1 3 (A x.wn))),(21,some (.X 1 3 (A x.nw))),(22,some (.X 1 3 (A x.ea))),(26,some (.X 1 3 (A x.mm))),(27,some (.X 1 3 (A x.mr))),(28,some (.X 1 3 (A x.md))),(29,some (.X 1 3 (A x.nd))),(30,some (.X 1 3 (A x.XC))),(3,some (.ro (A r.bm))),(7,some (.ro (A r.uB))),(9,some (.ro (xA r.vA))),(13,some (.ro (A r.be))),(31,some (.X 1 3 ys))] (oK x r len (LL y)):=by
 subst er e0;exact eH
theorem N8 {w:World} {W:Nat->Prop} {G:wA} {g:GW w W} {Q:QT} (x:IT) (r:RR) (len y m:Int) (hy:2<=y/\y<=15000) (hx:x.yl=365+lp y) (ZI:x.yw=(before y%7).toNat) (KF:x.XC=JF 55) (oE:0<=r.wk/\r.wk<=6) (rJ:r.uB.length<=100) (hB:∀n∈r.uB,n≠0/\-51<=n/\n<=51):
  T (cx w W f48.ntmps (KA yF) 26 G g) ((f48.body.bind (ID 15)).getD .skip) [(0, .u (.p 0 7)),(1, .u (I y)),(2, .u (I m))]
   ([(0,some (.st (XB x 26 27 28 29 30 20 21 22 23 24 25))),(1,some (.ro (QE r len))),(7,some (.ro (A r.uB))),(20,some (.X 1 3 (A x.wn)))]++se x r) 31
   (SF (cx w W f48.ntmps (KA yF) 26 G g) [(0, .u (.p 0 7)),(1, .u (I y)),(2, .u (I m))] ([(0,some (.st (XB {x with wn:=eG r y} 26 27 28 29 30 31 21 22 23 24 25))),(1,some (.ro (QE r len))),(31,some (.X 1 3 (A (eG r y))))]++se x r) 32 Q):=by
 have GQ:=tB y
 have KG:=EW y r.wk
 have hnr:=FW (y:=y) oE
 have hwr:=XR y r.wk
 have gM:=NG y
 have bE:0<=before y/\before y<=6000000:=by unfold before;omega
 obtain⟨fw,hO⟩:∃fw,fw=cE y r.wk:=⟨_,rfl⟩
 obtain⟨n1,cG⟩:∃n1,n1=iE y r.wk:=⟨_,rfl⟩
 obtain⟨nw,xG⟩:∃nw,nw=WD y r.wk:=⟨_,rfl⟩
 obtain⟨wl,sR⟩:∃wl,wl=WR y r.wk:=⟨_,rfl⟩
 have O8:0<=n1/\n1<=6:=by rw[cG];unfold iE;split<;>omega
 have qZ:x.yw<=6:=O
 have er:cC (mE HR.zero ((x.yl+7).toNat*1))=A (LL y):=by rw[hx];exact mW _
 have SFA:300<=wl/\wl<=400:=by rw[sR,vl oE];omega
 have P8:nw=wl/7+wl%7/4:=by rw[xG,sR];rfl
 have rp:fw=(7- (x.yw:Int)+r.wk)%7:=by rw[hO];unfold cE;omega
 have rZ:n1=if fw>=4 then 0 else fw:=by rw[cG,hO];rfl
 have sZ:wl=if fw>=4 then x.yl+((x.yw:Int)-r.wk)%7 else x.yl-fw:=by rw[sR,hO,hx];unfold WR;rw[show(x.yw:Int)=before y%7 by omega]
 have hq:∀q,1<=q->q<=nw->0<=QI fw n1 q/\QI fw n1 q+7<=(LL y).length:=λq D h2=>by
  have:=L8 (y:=y) oE D O
  rw[uW,hO,cG];omega
 obtain⟨M1,vF⟩:∃M1,M1=marks (LL y) (YJ x.yw r.wk fw n1 nw r.uB):=⟨_,rfl⟩
 obtain⟨M2,vW⟩:∃M2,M2=marks M1 (YR y r.wk r.uB):=⟨_,rfl⟩
 have Q8:M1.length=(372+lp y).toNat:=by rw[vF,aK,uW]
 have hL2:M2.length=(372+lp y).toNat:=by rw[vW,aK,Q8]
 have tZ:¬r.uB=[]->eG r y=marks M2 (vP y r.wk r.uB):=λh=>by
  unfold eG;rw[if_neg (λh'=>h (List.length_eq_zero_iff.1 h')),vW,vF,oZ,oZ,K8,ZI,hO,cG,xG];simp[HW]
 obtain⟨i0,DH⟩:∃i0,i0=GD y r.wk+7*WD y r.wk:=⟨_,rfl⟩
 have jE:=M8 (y:=y) oE
 rw[<-cG,<-hO,<-xG]at jE
 have kL:CG x.yw i0 r.wk=7:=by rw[ZI,DH,<-xG];exact jE.2
 rw[xG,<-DH,<-xG]at jE
 have CH:=EN (y-1) 1 1 0 0 0 O O O O O O
 have jD:0<=before (y-1)/\before (y-1)<=6000000:=by unfold before;omega
 have uR:KD (y-1) 1 1*86400+0*3600+0*60+0=before (y-1)*86400:=by
  rw[XK O];unfold NA;rw[lO];omega
 rw[uR]at CH
 have kG:=XW (before (y-1)*86400) 0 O
 rw[show before (y-1)*86400/86400=before (y-1)by omega]at kG
 have sF:=YW ((before (y-1)+1)%7) O
 rw[show((before (y-1)+1)%7+6)%7=before (y-1)%7 by omega]at sF
 have pO:=tB (y-1)
 have e0:(x.yl+7).toNat=(LL y).length:=by rw[uW];omega
 repeat' (first
  |refine pC (x:= .seq (.region 21 _ _) _) [(0, .u (.p 0 7)),(1, .u (I y)),(2, .u (I m)),(6, .u (I fw)),(7, .u (I n1)),(8, .u (I wl))] (oK x r len (LL y)) 32 ?_ ?_
  |refine FJ (x:= .block 0 _) (F8 x r len y m fw n1 nw (LL y) oE qZ KF (by rw[uW];omega) O O8 O rJ hq (λn hn=>by have:=hB n hn;omega)) (eN ⟨rfl,rfl,rfl,rfl,rfl,bB P8.symm,rfl,rfl,rfl,U⟩ eH) ?_
  |refine pC (x:= .seq (.region 46 _ _) _) [(0, .u (.p 0 7)),(1, .u (I y)),(2, .u (I m)),(6, .u (I fw)),(7, .u (I n1)),(11, .u (I nw))] (oK x r len M2) 32 ?_ ?_
  |refine pC (x:= .seq (.region 48 _ _) _) [(0, .u (.p 0 7)),(1, .u (I y)),(2, .u (I m)),(6, .u (I fw)),(7, .u (I n1)),(11, .u (I nw)),(16, .u (I i0))] (oK x r len M1) 32 ?_ ?_
  |refine EQ 4 ?_
  |refine EQ 6 ?_
  |refine tk ?_
  |refine And.intro (λ_=>⟨O,O,by show(8:Int)*_<=_;omega,O⟩) ?_
  |refine cz 98 func98 (λ_=>IU _ _ (by first|omega|(dsimp only;omega)) O) ?_
  |refine And.intro (λ_=>by unfold zA;dsimp only;omega) ?_
  |refine cz 99 func99 (λ_=>wO _ _ O O) ?_
  |(refine WC 49 (.s 7 0 _::_) ?_;refine cA.R [7] func49 rfl rfl (λ_=>EG _ _ O) rfl rfl rfl BC rfl ?_)
  |refine cz 88 func88 (λ_=>bn _ O) ?_
  |refine cz 81 func81 (λ_=>sN _ _) ?_
  |refine cz 80 func80 (λ_=>CH) ?_
  |refine cz 47 func47 (λ_=>kG) ?_
  |refine cz 46 func46 (λ_=>sF) ?_
  |refine CA ?_|refine an ?_ ?_|(intro Z;try simp at Z))
 ·have e:eG r y=[]:=if_pos (by simp[*])
  rw[e]at Z
  exact VD 0 20 1 3 (XB {x with wn:=[]} 26 27 28 29 30 31 21 22 23 24 25) rfl rfl rfl (mB (eN eF eH) Z)
 ·rw[<-rp]at*
  rw[if_pos O]at rZ sZ
  exact⟨[],eN ⟨rfl,rfl,rfl,rfl,bB rZ.symm,bB sZ.symm,U⟩ (qp er e0)⟩
 ·rw[<-rp]at*
  rw[if_neg O]at rZ sZ
  exact⟨[],eN ⟨rfl,rfl,rfl,rfl,bB rZ.symm,bB sZ.symm,U⟩ (qp er e0)⟩
 ·exact⟨[],eN ⟨rfl,rfl,rfl,rfl,rfl,rfl,bB (by rw[if_pos Z]at jE;omega),U⟩ (vF▸eH)⟩
 ·exact⟨[],eN ⟨rfl,rfl,rfl,rfl,rfl,rfl,bB (by rw[if_neg O]at jE;omega),U⟩ (vF▸eH)⟩
 ·have e:M2=marks M1 (BF i0 7):=by rw[vW];unfold YR;rw[if_pos ⟨by assumption,O⟩,<-DH]
  rw[e]
  exact⟨pK (B8 x r len y m fw n1 nw i0 7 kL.symm oE M1 qZ KF O O O) (eN ⟨rfl,rfl,rfl,rfl,rfl,rfl,bB (show i0=i0+((0:Nat):Int)by omega),rfl,U⟩ eH)⟩
 ·have e:M2=M1:=by rw[vW];unfold YR;rw[if_neg O];rfl
  rw[e]
  exact⟨[],eN eF eH⟩
 ·have e:M2=M1:=by rw[vW];unfold YR;rw[if_neg (λh=>Z h.1)];rfl
  rw[e]
  exact⟨[],eN eF (vF▸eH)⟩
 ·exact absurd (hB _ Z) O
 ·have e:eG r y=M2:=by rw[tZ (by assumption)];unfold vP;rw[if_neg (λh=>absurd h.2 ‹¬-1∈r.uB›)];rfl
  rw[e]at Z;exact mB (eN eF eH) Z
 ·exact absurd (hB _ Z) O
 ·have e:eG r y=M2:=by rw[tZ (by assumption)];unfold vP;rw[if_neg (λh=>absurd h.2 ‹¬-1∈r.uB›)];rfl
  rw[e]at Z;exact mB (eN eF eH) Z
 ·have e:eG r y=marks M2 (BF 0 n1.toNat):=by rw[tZ (by assumption)];unfold vP;rw[if_pos ⟨O,‹-1∈r.uB›⟩,<-cG]
  rw[e]
  exact⟨pK (J8 (D8 x r len y m n1.toNat O M2 O) (eN eF eH)) (eN ⟨rfl,rfl,rfl,bB O,rfl,U⟩ eH)⟩
 ·exact absurd ‹-1∈r.uB› ‹¬-1∈r.uB›
 ·have e:eG r y=M2:=by rw[tZ (by assumption)];unfold vP;rw[if_neg (λh=>absurd h.1 O)];rfl
  rw[e]at Z;exact mB (eN eF eH) Z
def sE (ms:List Int):List SV:=ms.map λm=> .s 27 (m-1).toNat 2
def PU (l:Int) (ms:List Int):List (Int×Int):=ms.map λm=>(GB l m,GB l (m+1))
theorem ue (ms:List Int):∀LA H,WA H 33=some (.X 1 22 (sE ms))->LA 33=33->LA 27=27->aE LA H 33 (.X 1 22 (sE ms)):=λLA H h D h2=>by
 show WA H (LA 33)=some (.X 1 22 (YA LA (sE ms)))
 have e:YA LA (sE ms)=sE ms:=by rw[pJ];simp[sE,SV.IB,h2,Function.comp_def]
 rw[D,h,e]
theorem vp {yw:Nat} {rg l:List (Int×Int)} {i:Nat} (h:i<rg.length):nP yw (rg.take (i+1)) l=nP yw (rg.take i) l++nQ yw (rg.getD i (0,0)).1 ((rg.getD i (0,0)).2-1) l:=by
 unfold nP
 rw[List.take_succ_eq_append_getElem h,List.flatMap_append,List.getD_eq_getElem?_getD,List.getElem?_eq_getElem h];simp
def aI (x:IT) (r:RR) (l:Int) (ms:List Int) (i:Nat):List Int:=marks (SJ l) (nP x.yw ((PU l ms).take i) r.vA)
def xp (x:IT) (r:RR) (len y m l:Int) (ms:List Int):MB {i:Nat//i<=ms.length}where
 F i:=[(0, .u (.p 0 7)),(1, .u (I y)),(2, .u (I m)),(504, .u (.s 33 0 ms.length)),(505, .u (I ms.length)),(506, .u (I i.1))]
 H i:=[(33,some (.X 1 22 (sE ms)))]++NU x r len (aI x r l ms i.1)
 n i:=34
theorem yp {w:World} {W:Nat->Prop} {G:wA} {g:GW w W} {Q:QT} (x:IT) (r:RR) (len y m l:Int) (ms:List Int) (hl:0<=l/\l<=1) (PJ:x.yl=365+l) (DG:x.mr=AG l) (ZI:x.yw<=6) (KF:x.XC=JF 55) (LC:0<ms.length/\ms.length<=100) (mR:∀m∈ms,1<=m/\m<=12) (rJ:r.vA.length<=100) (hB:∀p∈r.vA,0<=p.1/\p.1<=6/\-5<=p.2/\p.2<=5/\p.2≠0):
  T (cx w W f48.ntmps (KA yF) 26 G g) ((f48.body.bind (ID 85)).getD .skip) [(0, .u (.p 0 7)),(1, .u (I y)),(2, .u (I m)),(23, .u (.s 32 0 ms.length))]
   ([(0,some (.st (XB x 26 27 28 29 30 31 21 22 23 24 25))),(1,some (.ro (QE r len))),(9,some (.ro (xA r.vA))),(21,some (.X 1 3 (A x.nw))),(32,some (.X 1 22 (sE ms)))]++AP x r) 33
   (SF (cx w W f48.ntmps (KA yF) 26 G g) [(0, .u (.p 0 7)),(1, .u (I y)),(2, .u (I m))] ([(0,some (.st (XB {x with nw:=aI x r l ms ms.length} 26 27 28 29 30 31 32 22 23 24 25))),(1,some (.ro (QE r len))),(32,some (.X 1 3 (A (aI x r l ms ms.length))))]++AP x r) 33 Q):=by
 have er:cC (mE HR.zero (x.yl.toNat*1))=A (aI x r l ms 0):=by rw[PJ];show _=A (SJ l);exact mW _
 have e0:x.yl.toNat=(aI x r l ms 0).length:=by rw[aI,aK,SJ,List.length_replicate,PJ]
 repeat' (first
  |refine tk ?_
  |refine And.intro (λ_=>⟨O,O,by show(8:Int)*_<=_;omega,O⟩) ?_
  |refine CA ?_|refine an ?_ ?_|(intro Z;try simp at Z))
 ·refine FB (xp x r len y m l ms) (λi=>ms.length-i.1) ?_ ?_
  ·refine⟨⟨0,O⟩,[(32,33),(33,32)],U,eL [(32,33),(33,32)] eF ⟨?_,?_,TB rfl (by simp[DA.cells];rfl),HA,gA rfl er,eH⟩⟩
   ·have e:YA (sig [(32,33),(33,32)] 34 34) (sE ms)=sE ms:=by rw[pJ];simp[sE,SV.IB,Function.comp_def,sig]
    show some (DA.X 1 22 (sE ms))=some (DA.X 1 22 (YA _ (sE ms)))
    exact congrArg (λl=>some (DA.X 1 22 l)) e.symm
   ·show some (DA.st _)=some (DA.st (XB {x with nw:=aI x r l ms 0} 26 27 28 29 30 31 33 22 23 24 25))
    simp only[XB,<-e0]
  ·rintro⟨i,hi⟩
   intro F H Y hF hH hn;dsimp only[xp]at hF hH hn;subst hF hH hn
   rcases Nat.lt_or_ge i ms.length with fA|IF
   ·obtain⟨v,hv⟩:∃v,ms.getD i 0=v:=⟨_,rfl⟩
    have ve:v∈ms:=by rw[<-hv,List.getD_eq_getElem?_getD,List.getElem?_eq_getElem fA];exact List.getElem_mem fA
    have we:=mR v ve
    have R8:(sE ms)[0+(i:Int).toNat*1]? =some (.s 27 (v-1).toNat 2):=by
     rw[show 0+(i:Int).toNat*1=i by omega];rw[List.getD_eq_getElem?_getD,List.getElem?_eq_getElem fA]at hv;simp[sE,fA,<-hv]
    have S8:x.mr.length=13:=by rw[DG];simp[AG]
    have D:x.mr.getD (v-1).toNat 0=GB l v:=by rw[DG];have:=wY (l:=l) (m:=v) we.1 O;rwa [show 0+(v-1).toNat*1=(v-1).toNat by omega]at this
    have h2:x.mr.getD v.toNat 0=GB l (v+1):=by rw[DG];have:=Qp (l:=l) (m:=v) we.1 O;rwa [show 0+v.toNat*1=v.toNat by omega]at this
    have GL:=bG (l:=l) (m:=v) hl
    have Vc:=bG (l:=l) (m:=v+1) hl
    have NW:GB l v+28<=GB l (v+1):=by
     rcases(by omega:v=1\/v=2\/v=3\/v=4\/v=5\/v=6\/v=7\/v=8\/v=9\/v=10\/v=11\/v=12)with rfl|rfl|rfl|rfl|rfl|rfl|rfl|rfl|rfl|rfl|rfl|rfl<;>simp[GB]<;>omega
    have T8:GB l (v+1)<=365+l:=by have:=mH hl (show v+1<=13 by omega);rwa [cN]at this
    have hc7:31<=GB l (v+1):=by have:=mH hl (show 2<=v+1 by omega);rwa [show GB l 2=31 by simp[GB]]at this
    have hc5:v=12->GB l (v+1)=365+l:=λh=>by subst h;exact cN l
    have hc6:GB l v<=335:=by have:=mH hl (show v<=12 by omega);have e12:GB l 12=334+l:=(by simp[GB]);omega
    have U8:(aI x r l ms i).length=(365+l).toNat:=by rw[aI,aK,SJ,List.length_replicate]
    have mC:i<(PU l ms).length:=by simpa [PU]using fA
    have V8:(PU l ms).getD i (0,0)=(GB l v,GB l (v+1)):=by
     rw[List.getD_eq_getElem?_getD,List.getElem?_eq_getElem fA]at hv
     rw[List.getD_eq_getElem?_getD,List.getElem?_eq_getElem mC];simp[PU]at hv⊢;rw[hv];simp
    have hz:aI x r l ms (i+1)=marks (aI x r l ms i) (ZF x.yw (GB l v) (GB l (v+1)-1) r.vA):=by
     unfold aI;rw[vp mC,V8,oZ]
    repeat' (first
     |refine FQ (x:= .block 12 _) (v7 x r len y m i ms.length (GB l v) (GB l (v+1)-1) (aI x r l ms i) (sE ms) ZI KF GL.1 O O O rJ (ue ms) (λp hp=>by have:=hB p hp;refine⟨this.1,this.2.1,O,O,?_⟩;unfold YI pI;split<;>omega)) (eN eF ⟨ue ms _ _ rfl rfl rfl,rfl,TB rfl (by simp[DA.cells];rfl),HA,gA rfl rfl,eH⟩) ?_
     |refine tk ?_
     |refine And.intro (λZ=> ?_) UD
     |refine DV R8 ?_
     |refine XD (v-1).toNat O O D ?_
     |refine XD v.toNat O O h2 ?_
     |refine CA ?_|refine an ?_ ?_|(intro Z;try simp at Z))
    refine⟨⟨i+1,O⟩,[],show ms.length- (i+1)<ms.length-i by omega,eN eF ⟨ue ms _ _ rfl rfl rfl,?_,TB rfl (by simp[DA.cells];rfl),HA,gA rfl (by rw[hz]),eH⟩⟩
    show some (DA.st _)=some (DA.st (XB {x with nw:=aI x r l ms (i+1)} 26 27 28 29 30 31 32 22 23 24 25))
    rw[hz]
   ·have OF:i=ms.length:=O
    subst OF
    repeat' (first
     |refine tk ?_
     |refine And.intro (λZ=>absurd Z (by simp)) (λZ=> ?_)
     |refine CA ?_|refine an ?_ ?_|(intro Z;try simp at Z))
    exact mB (eN eF eH) Z
 ·exact absurd LC.1 (by simp[*])
def ZJ (x:IT) (r:RR) (l:Int) (i:Nat):List Int:=marks (SJ l) (nP x.yw ([(0,365+l)].take i) r.vA)
def zp (x:IT) (r:RR) (len y m l:Int):MB {i:Nat//i<=1}where
 F i:=[(0, .u (.p 0 7)),(1, .u (I y)),(2, .u (I m)),(504, .u (.s 34 0 1)),(505, .u (I 1)),(506, .u (I i.1))]
 H i:=[(33,some (.X 1 3 (A [0,365+l]))),(34,some (.X 1 22 [.s 33 0 2]))]++NU x r len (ZJ x r l i.1)
 n i:=35
theorem xe:∀LA H,WA H 34=some (.X 1 22 [.s 33 0 2])->LA 34=34->LA 33=33->aE LA H 34 (.X 1 22 [.s 33 0 2]):=λLA H h D h2=>by
 show WA H (LA 34)=some (.X 1 22 [.s (LA 33) 0 2])
 rw[D,h,h2]
theorem W8 {w:World} {W:Nat->Prop} {G:wA} {g:GW w W} {Q:QT} (x:IT) (r:RR) (len y m l:Int) (hl:0<=l/\l<=1) (PJ:x.yl=365+l) (ZI:x.yw<=6) (KF:x.XC=JF 55) (rJ:r.vA.length<=100) (hB:∀p∈r.vA,0<=p.1/\p.1<=6/\-53<=p.2/\p.2<=53/\p.2≠0):
  T (cx w W f48.ntmps (KA yF) 26 G g) ((f48.body.bind (ID 85)).getD .skip) [(0, .u (.p 0 7)),(1, .u (I y)),(2, .u (I m)),(23, .u (.s 33 0 1))]
   ([(0,some (.st (XB x 26 27 28 29 30 31 21 22 23 24 25))),(1,some (.ro (QE r len))),(9,some (.ro (xA r.vA))),(21,some (.X 1 3 (A x.nw))),(32,some (.X 1 3 (A [0,365+l]))),(33,some (.X 1 22 [.s 32 0 2]))]++AP x r) 34
   (SF (cx w W f48.ntmps (KA yF) 26 G g) [(0, .u (.p 0 7)),(1, .u (I y)),(2, .u (I m))] ([(0,some (.st (XB {x with nw:=ZJ x r l 1} 26 27 28 29 30 31 32 22 23 24 25))),(1,some (.ro (QE r len))),(32,some (.X 1 3 (A (ZJ x r l 1))))]++AP x r) 33 Q):=by
 have er:cC (mE HR.zero (x.yl.toNat*1))=A (ZJ x r l 0):=by rw[PJ];show _=A (SJ l);exact mW _
 have e0:x.yl.toNat=(ZJ x r l 0).length:=by rw[ZJ,aK,SJ,List.length_replicate,PJ]
 repeat' (first
  |refine tk ?_
  |refine And.intro (λ_=>⟨O,O,by show(8:Int)*_<=_;omega,O⟩) ?_
  |refine CA ?_|refine an ?_ ?_|(intro Z;try simp at Z))
 ·refine FB (zp x r len y m l) (λi=>1-i.1) ?_ ?_
  ·refine⟨⟨0,O⟩,[(32,34),(33,32),(34,33)],U,eL [(32,34),(33,32),(34,33)] eF ⟨gA rfl rfl,rfl,?_,TB rfl (by simp[DA.cells];rfl),HA,gA rfl er,eH⟩⟩
   show some (DA.st _)=some (DA.st (XB {x with nw:=ZJ x r l 0} 26 27 28 29 30 31 34 22 23 24 25))
   simp only[XB,<-e0]
  ·rintro⟨i,hi⟩
   intro F H Y hF hH hn;dsimp only[zp]at hF hH hn;subst hF hH hn
   have U8:(ZJ x r l i).length=(365+l).toNat:=by rw[ZJ,aK,SJ,List.length_replicate]
   rcases(by omega:i=0\/i=1)with rfl|rfl
   ·have hz:ZJ x r l 1=marks (ZJ x r l 0) (ZF x.yw 0 (365+l-1) r.vA):=by
     unfold ZJ;rw[vp (by simp),oZ];rfl
    repeat' (first
     |refine FQ (x:= .block 12 _) (C8 x r len y m 0 1 0 (365+l-1) (ZJ x r l 0) [0,365+l] [.s 33 0 2] ZI KF (Int.le_refl 0) O O O rJ xe (λp hp=>by have:=hB p hp;refine⟨this.1,this.2.1,O,O,?_⟩;unfold YI pI;split<;>omega)) (eN eF ⟨gA rfl rfl,xe _ _ rfl rfl rfl,rfl,TB rfl (by simp[DA.cells];rfl),HA,gA rfl rfl,eH⟩) ?_
     |refine tk ?_
     |refine CA ?_|refine an ?_ ?_|(intro Z;try simp at Z))
    refine⟨⟨1,O⟩,[],show 1-1<1-0 by omega,eN eF ⟨gA rfl rfl,xe _ _ rfl rfl rfl,?_,TB rfl (by simp[DA.cells];rfl),HA,gA rfl (by rw[hz]),eH⟩⟩
    show some (DA.st _)=some (DA.st (XB {x with nw:=ZJ x r l 1} 26 27 28 29 30 31 32 22 23 24 25))
    rw[hz]
   ·skip
    repeat' (first
     |refine tk ?_
     |refine CA ?_|refine an ?_ ?_|(intro Z;try simp at Z))
    exact mB (eN eF eH) Z
theorem FG (k:Nat) {C:Cx} {l:List Oper} {b:Bool} {y:Code} {F:FS} {H:HS} {Y:Nat} {Q:QT} (h:Stop (T C (.seq (.region k (List.toArray l) b) y) F H Y Q)):T C (.seq (.region k (List.toArray l) b) y) F H Y Q:=h.ok
def FH (x:IT) (r:RR) (y m:Int):List Int:=if 0<r.vA.length/\(m≠x.lm\/y≠x.ly)then marks (SJ (lp y)) (nP x.yw (SI r.BA r.bm (lp y) m) r.vA)else x.nw
def Aq (x:IT) (r:RR) (len y m:Int):MB {i:Nat//i<=r.bm.length}where
 F i:=[(0, .u (.p 0 7)),(1, .u (I y)),(2, .u (I m)),(23, .u (.s 32 0 i.1)),(450, .u (.s 3 0 r.bm.length)),(451, .u (I r.bm.length)),(452, .u (I i.1))]
 H i:=[(0,some (.st (XB x 26 27 28 29 30 31 21 22 23 24 25))),(1,some (.ro (QE r len))),(3,some (.ro (A r.bm))),(9,some (.ro (xA r.vA))),(21,some (.X 1 3 (A x.nw))),(32,some (.X 1 22 (sE (r.bm.take i.1))))]++AP x r
 n i:=33
theorem X8 {LA:Nat->Nat} (h:LA 27=27) (ms:List Int):YA LA (sE ms)=sE ms:=by rw[pJ];simp[sE,SV.IB,h,Function.comp_def]
theorem ye {LA:Nat->Nat} {H:HS} {b:Nat} {xs:List SV} {ms:List Int} (hs:LA 27=27) (h:WA H (LA b)=some (.X 1 22 xs)) (hx:xs=sE ms):aE LA H b (.X 1 22 (sE ms)):=by
 show WA H (LA b)=some (.X 1 22 (YA LA (sE ms)))
 rw[h,hx,X8 hs]
theorem Bq {w:World} {W:Nat->Prop} {G:wA} {g:GW w W} {Q:QT} (x:IT) (r:RR) (len y m:Int) (hm:1<=m/\m<=12) (PJ:x.yl=365+lp y) (DG:x.mr=AG (lp y)) (ZI:x.yw<=6) (KF:x.XC=JF 55) (JQ:r.bm.length<=100) (mR:∀m∈r.bm,1<=m/\m<=12) (rJ:r.vA.length<=100) (hf:0<r.vA.length->r.BA=0\/r.BA=1) (hB:∀p∈r.vA,0<=p.1/\p.1<=6/\-53<=p.2/\p.2<=53/\p.2≠0) (Cq:r.BA=1\/r.bm≠[]->∀p∈r.vA,-5<=p.2/\p.2<=5):
  T (cx w W f48.ntmps (KA yF) 26 G g) ((f48.body.bind (ID 73)).getD .skip) [(0, .u (.p 0 7)),(1, .u (I y)),(2, .u (I m))]
   ([(0,some (.st (XB x 26 27 28 29 30 31 21 22 23 24 25))),(1,some (.ro (QE r len))),(3,some (.ro (A r.bm))),(9,some (.ro (xA r.vA))),(21,some (.X 1 3 (A x.nw)))]++AP x r) 32
   (SF (cx w W f48.ntmps (KA yF) 26 G g) [(0, .u (.p 0 7)),(1, .u (I y)),(2, .u (I m))] ([(0,some (.st (XB {x with nw:=FH x r y m} 26 27 28 29 30 31 32 22 23 24 25))),(1,some (.ro (QE r len))),(32,some (.X 1 3 (A (FH x r y m))))]++AP x r) 33 Q):=by
 have hl:=tB y
 have S8:x.mr.length=13:=by rw[DG];simp[AG]
 have TFA:(0<r.vA.length/\(m≠x.lm\/y≠x.ly))\/¬(0<r.vA.length/\(m≠x.lm\/y≠x.ly)):=Classical.em _
 repeat' (first
  |refine FG 85 ?_
  |refine EQ 8 ?_
  |refine tk ?_
  |refine And.intro (λ_=>⟨O,O,O⟩) ?_
  |refine CA ?_|refine an ?_ ?_|(intro Z;try simp at Z))
 ·have hc:0<r.vA.length/\(m≠x.lm\/y≠x.ly):=⟨List.length_pos_iff.2 (by rename_i h _;exact h.1),by rename_i h _;exact h.2⟩
  have Dq:0<r.bm.length:=List.length_pos_iff.2 Z
  have e:FH x r y m=aI x r (lp y) r.bm r.bm.length:=by
   unfold FH aI SI;rw[if_pos hc,if_pos (by assumption),if_neg Z,List.take_of_length_le (by simp[PU])];rfl
  rw[e]
  refine Stop.mk (aG 23 1 22 rfl ?_)
  repeat' (first
   |refine tk ?_
   |refine CA ?_|refine an ?_ ?_|(intro Z;try simp at Z))
  refine FB (Aq x r len y m) (λi=>r.bm.length-i.1) ?_ ?_
  ·exact⟨⟨0,O⟩,[],U,eN eF eH⟩
  ·rintro⟨i,hi⟩
   intro F H Y hF hH hn;dsimp only[Aq]at hF hH hn;subst hF hH hn
   rcases Nat.lt_or_ge i r.bm.length with fA|IF
   ·obtain⟨v,hv⟩:∃v,r.bm.getD i 0=v:=⟨_,rfl⟩
    have ve:v∈r.bm:=by rw[<-hv,List.getD_eq_getElem?_getD,List.getElem?_eq_getElem fA];exact List.getElem_mem fA
    have we:=mR v ve
    repeat' (first
     |refine tk ?_
     |refine XD i O O hv ?_
     |refine And.intro (λZ=> ?_) UD
     |refine And.intro (λ_=>⟨O,O,O⟩) ?_
     |refine⟨(by show i*1<=(sE (r.bm.take i)).length;simp[sE];omega),Nat.le_of_ble_eq_true rfl,O,λ_=>(by intro s hs;have iB:s∈[SV.s 27 _ _]:=hs;simp at iB;subst iB;rfl),λ_=>⟨by show(_+1)*24<=_;omega,by simp only[maxLen];omega⟩,?_⟩
     |refine CA ?_|refine an ?_ ?_|(intro Z;try simp at Z))
    have e2:(sE (r.bm.take i)).take (i*1)++[SV.s 27 (0+(v-1).toNat*1) (v+1- (v-1)).toNat]=sE (r.bm.take (i+1)):=by
     rw[List.take_of_length_le (by simp[sE];omega),List.take_succ_eq_append_getElem fA]
     rw[List.getD_eq_getElem?_getD,List.getElem?_eq_getElem fA]at hv
     simp only[Option.getD_some]at hv
     simp[sE,hv];omega
    exact⟨⟨i+1,O⟩,[(32,34)],show r.bm.length- (i+1)<r.bm.length-i by omega,eL [(32,34)] eF ⟨rfl,TB rfl (by simp[DA.cells];rfl),HA,HA,gA rfl rfl,ye rfl rfl e2,eH⟩⟩
   ·have OF:i=r.bm.length:=O
    subst OF
    repeat' (first
     |refine FG 85 ?_
     |refine tk ?_
     |refine And.intro (λZ=>absurd Z (by simp)) (λZ=> ?_)
     |refine CA ?_|refine an ?_ ?_|(intro Z;try simp at Z))
    refine Stop.mk (pK (yp x r len y m (lp y) r.bm hl PJ DG ZI KF ⟨Dq,JQ⟩ mR rJ (λp hp=>by have:=hB p hp;have:=Cq (.inr (List.length_pos_iff.1 Dq)) p hp;omega)) (eN eF ⟨rfl,TB rfl (by simp[DA.cells];rfl),HA,gA rfl rfl,ye rfl rfl (by rw[List.take_length]),eH⟩))
 ·have hc:0<r.vA.length/\(m≠x.lm\/y≠x.ly):=⟨List.length_pos_iff.2 (by rename_i h _;exact h.1),by rename_i h _;exact h.2⟩
  have e:FH x r y m=ZJ x r (lp y) 1:=by
   unfold FH ZJ SI;rw[if_pos hc,if_pos (by assumption),if_pos Z];rfl
  rw[e]
  exact⟨pK (W8 x r len y m (lp y) hl PJ ZI KF rJ hB) (eN eF ⟨rfl,TB rfl (by simp[DA.cells];rfl),HA,gA rfl rfl,gA rfl (by rw[PJ];rfl),rfl,eH⟩)⟩
 ·have hc:0<r.vA.length/\(m≠x.lm\/y≠x.ly):=⟨List.length_pos_iff.2 (by rename_i h _;exact h.1),by rename_i h _;exact h.2⟩
  have e:FH x r y m=aI x r (lp y) [m] 1:=by
   unfold FH aI SI;rw[if_pos hc,if_neg (by assumption),if_pos Z];rfl
  have e2:[SV.s 27 (0+(m-1).toNat*1) (m+1- (m-1)).toNat]=sE [m]:=by simp[sE];omega
  rw[e]
  exact⟨pK (yp x r len y m (lp y) [m] hl PJ DG ZI KF ⟨by simp,by simp⟩ (λ_ h=>by simp at h;subst h;exact hm) rJ (λp hp=>by have:=hB p hp;have:=Cq (.inl Z) p hp;omega)) (eN eF ⟨rfl,TB rfl (by simp[DA.cells];rfl),HA,gA rfl rfl,ye rfl rfl e2,eH⟩)⟩
 ·rcases hf (List.length_pos_iff.2 (by rename_i h _;exact h.1))with h|h<;>contradiction
 ·have e:FH x r y m=x.nw:=by
   unfold FH;rw[if_neg];rintro⟨D,h2⟩
   rename_i h3 _ _
   have:=h3 (List.length_pos_iff.1 D);omega
  rw[e]at Z
  exact mB (eL [(32,21)] eF eH) Z
end En
end Go.Proofs.YtkidgehblodbcaaGreatDoor
