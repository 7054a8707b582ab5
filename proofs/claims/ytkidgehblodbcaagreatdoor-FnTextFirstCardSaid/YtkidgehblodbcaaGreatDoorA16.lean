/- A part of the proof of FnTextFirst: the calendar's rebuild, walked. -/
import Derived.Test.YtkidgehblodbcaaGreatDoorA12
set_option linter.all false
set_option maxRecDepth 100000
set_option maxHeartbeats 16000000
namespace Go.Proofs.YtkidgehblodbcaaGreatDoor
namespace En
open Go.RowKit Go.Proofs.Tryz
def MN (x:IT) (y:Int):IT:=
 {x with yl:=365+lp y,dG:=365+lp (y+1),fy:=before y*86400,yw:=(before y%7).toNat,mm:=RJ (lp y),mr:=AG (lp y),md:=YK (lp y),nd:=ZK (lp y),XC:=JF 55}
abbrev W9 (x:IT):List SV:=XB x 26 27 28 29 30 20 21 22 23 24 25
def X9 (y:Int):HS:=[(26,some (.X 1 3 (A (RJ (lp y))))),(27,some (.X 1 3 (A (AG (lp y))))),(28,some (.X 1 3 (A (YK (lp y))))),(29,some (.X 1 3 (A (ZK (lp y))))),(30,some (.X 1 3 (A (JF 55))))]
theorem Y9:(yL sP 59).length=372/\(yL tP 59).length=372/\(yL uP 31).length=372/\(AG 0).length=13:=by decide
theorem Z9:sP.length=373/\tP.length=373/\uP.length=373/\(AG 1).length=13:=by decide
def QQ (x:IT) (r:RR) (len:Int):HS:=[(0,some (.st (kE x))),(1,some (.ro (QE r len))),(15,some (.X 1 3 (A x.mm))),(16,some (.X 1 3 (A x.mr))),(17,some (.X 1 3 (A x.md))),(18,some (.X 1 3 (A x.nd))),(19,some (.X 1 3 (A x.XC))),(20,some (.X 1 3 (A x.wn))),(21,some (.X 1 3 (A x.nw))),(22,some (.X 1 3 (A x.ea)))]++lW r
def j9 (x:IT) (r:RR) (len:Int) (y:Int):HS:=[(0,some (.st (W9 (MN x y)))),(1,some (.ro (QE r len))),(20,some (.X 1 3 (A x.wn))),(21,some (.X 1 3 (A x.nw))),(22,some (.X 1 3 (A x.ea)))]++(X9 y++lW r)
structure RB (r:RR):Prop where
 wk:0<=r.wk/\r.wk<=6
 uB:r.uB.length<=100/\∀n∈r.uB,n≠0/\-51<=n/\n<=51
 bm:r.bm.length<=100/\∀m∈r.bm,1<=m/\m<=12
 vA:r.vA.length<=100/\∀p∈r.vA,0<=p.1/\p.1<=6/\-53<=p.2/\p.2<=53/\p.2≠0
 yR:0<r.vA.length->r.BA=0\/r.BA=1
 Cr:r.BA=1\/r.bm≠[]->∀p∈r.vA,-5<=p.2/\p.2<=5
 be:r.be.length<=100/\∀o∈r.be,-80<=o/\o<=80
def zR (x:IT) (r:RR) (y:Int):IT:=if y=x.ly then x else{MN x y with wn:=eG r y}
def EF (x:IT) (r:RR) (y m:Int):IT:={zR x r y with nw:=FH (zR x r y) r y m,ea:=nF r y (zR x r y).ea,ly:=y,lm:=m}
theorem Dr {y:Int} (hy:1<=y/\y<=15000):0<=wC y/\wC y<=6000000/\oA (wC y)=y/\80<=idxOf (wC y)/\idxOf (wC y)<=116:=by
 have D:=uV (y:=y) O
 have h3:GB (lp y) 3=59+lp y:=by simp[GB]
 have hl:=tB y
 have bE:0<=before y/\before y<=6000000-200:=by unfold before;omega
 have hs:=NG y
 have he:wC y=before y+(59+lp y)+27+PH y- (y+y/4+PH y+2-y/100+y/100/4)%7:=by unfold wC NA;rw[h3];omega
 have JH:oA (wC y)=y:=MR O O
 refine⟨O,O,JH,?_⟩
 unfold idxOf;rw[JH];omega
abbrev af (x:IT):List SV:=XB x 26 27 28 29 30 31 32 33 23 24 25
def Er (x:IT):HS:=[(0,some (.st (af x))),(26,some (.X 1 3 (A x.mm))),(27,some (.X 1 3 (A x.mr))),(28,some (.X 1 3 (A x.md))),(29,some (.X 1 3 (A x.nd))),(30,some (.X 1 3 (A x.XC))),(31,some (.X 1 3 (A x.wn))),(32,some (.X 1 3 (A x.nw))),(33,some (.X 1 3 (A x.ea)))]
theorem Gr (x:IT) (r:RR) (len y m:Int) (hy:2<=y/\y<=15000) (hm:1<=m/\m<=12) (LC:y≠x.ly) (hr:RB r):
  Fn prog 48 [.p 0 7,I y,I m] (QQ x r len) 26 (.jA []) (Er (EF x r y m)) 34:=by
 have CH:=EN y 1 1 0 0 0 O O O O O O
 have uR:KD y 1 1*86400+0*3600+0*60+0=before y*86400:=by
  rw[XK O];unfold NA;rw[lO];omega
 rw[uR]at CH
 have bE:0<=before y/\before y<=6000000:=by unfold before;omega
 have GQ:=tB y
 have pO:=tB (y+1)
 have kG:=XW (before y*86400) 0 O
 rw[show before y*86400/86400=before y by omega]at kG
 obtain⟨yw,ZI⟩:∃yw:Nat,yw=(before y%7).toNat:=⟨_,rfl⟩
 have sF:=YW ((before y+1)%7) O
 rw[show((before y+1)%7+6)%7=(yw:Int)by omega]at sF
 have e1:((385:Nat):Int)- (yw:Int)=((385-yw:Nat):Int):=O
 have ey:MN x y={x with yl:=365+lp y,dG:=365+lp (y+1),fy:=before y*86400,yw:=yw,mm:=RJ (lp y),mr:=AG (lp y),md:=YK (lp y),nd:=ZK (lp y),XC:=JF 55}:=by rw[ZI];rfl
 refine fm (KA yF) func48 λw W G g=> ?_
 have k9:=Dr (y:=y) O
 have bf:EF x r y m={(MN x y)with wn:=eG r y,nw:=FH {MN x y with wn:=eG r y} r y m,ea:=nF r y x.ea,ly:=y,lm:=m}:=by unfold EF zR;simp only[if_neg LC];rfl
 rw[bf]
 repeat' (first
  |refine pC (x:= .seq (.region 6 _ _) _) [(0, .u (.p 0 7)),(1, .u (I y)),(2, .u (I m))] (j9 x r len y) 31 ?_ ?_
  |refine EH (x:= .seq (.region 15 _ _) _) (N8 (MN x y) r len y m O rfl rfl rfl hr.wk hr.uB.1 hr.uB.2) (eN eF eH) ?_
  |refine EH (x:= .seq (.region 73 _ _) _) (Bq {MN x y with wn:=eG r y} r len y m hm rfl rfl (by show(before y%7).toNat<=6;omega) rfl hr.bm.1 hr.bm.2 hr.vA.1 hr.yR hr.vA.2 hr.Cr) (eN eF eH) ?_
  |refine FJ (x:= .seq (.region 106 _ _) _) (fp {MN x y with wn:=eG r y,nw:=FH {MN x y with wn:=eG r y} r y m} r len y m O rfl hr.be.1 (λo ho=>by have:=hr.be.2 o ho;omega) O (λo ho=>by have:=hr.be.2 o ho;omega)) (eN eF eH) ?_
  |refine tk ?_
  |refine And.intro (λZ=> ?_) (λZ=>absurd (by simpa using Z) LC)
  |refine cz 88 func88 (λ_=>bn _ O) ?_
  |refine cz 81 func81 (λ_=>sN _ _) ?_
  |refine cz 80 func80 (λ_=>CH) ?_
  |refine cz 47 func47 (λ_=>kG) ?_
  |refine cz 46 func46 (λ_=>sF) ?_
  |(refine AB 89 ?_;refine cA.N [] func89 rfl rfl (λ_=>G6) rfl rfl rfl (λ_=>U) ?_)
  |(refine AB 90 ?_;refine cA.N [] func90 rfl rfl (λ_=>B6) rfl rfl rfl (λ_=>U) ?_)
  |(refine AB 91 ?_;refine cA.N [] func91 rfl rfl (λ_=>C6) rfl rfl rfl (λ_=>U) ?_)
  |(refine AB 92 ?_;refine cA.N [] func92 rfl rfl (λ_=>D6) rfl rfl rfl (λ_=>U) ?_)
  |(refine AB 93 ?_;refine cA.N [] func93 rfl rfl (λ_=>F6) rfl rfl rfl (λ_=>U) ?_)
  |(refine AB 94 ?_;refine cA.N [] func94 rfl rfl (λ_=>Ao) rfl rfl rfl (λ_=>U) ?_)
  |(refine AB 95 ?_;refine cA.N [] func95 rfl rfl (λ_=>Bo) rfl rfl rfl (λ_=>U) ?_)
  |(refine AB 96 ?_;refine cA.N [] func96 rfl rfl (λ_=>Co) rfl rfl rfl (λ_=>U) ?_)
  |(refine AB 97 ?_;refine cA.N [] func97 rfl rfl (λ_=>E6) rfl rfl rfl (λ_=>U) ?_)
  |refine CA ?_|refine an ?_ ?_|(intro Z;try simp at Z))
 ·have hl:lp y=0:=O
  obtain⟨g1,g2,g3,g4⟩:=Y9
  refine⟨[(26,28),(28,30),(29,32),(27,34),(30,26)],OA.names _ UA rfl rfl ⟨rfl,rfl,rfl,U⟩ ⟨?_,TB rfl (by simp[DA.cells];rfl),gA rfl rfl,gA rfl rfl,gA rfl rfl,gA rfl (by rw[hl];rfl),gA rfl (by rw[hl]),gA rfl (by rw[hl];rfl),gA rfl (by rw[hl];rfl),eH⟩⟩
  rw[ey]
  show some (DA.st _)=some (DA.st (XB {x with yl:=365+lp y,dG:=365+lp (y+1),fy:=before y*86400,yw:=yw,mm:=RJ (lp y),mr:=AG (lp y),md:=YK (lp y),nd:=ZK (lp y),XC:=JF 55} 28 34 30 32 26 20 21 22 23 24 25))
  simp only[XB,hl,RJ,YK,ZK,if_pos,g1,g2,g3,g4,e1,DW,Int.toNat_natCast,Nat.zero_add,Nat.mul_one]
 ·have hl:lp y=1:=O
  obtain⟨g1,g2,g3,g4⟩:=Z9
  refine⟨[(26,28),(28,30),(29,32),(27,34),(30,26)],OA.names _ UA rfl rfl ⟨rfl,rfl,rfl,U⟩ ⟨?_,TB rfl (by simp[DA.cells];rfl),gA rfl rfl,gA rfl rfl,gA rfl rfl,gA rfl (by rw[hl];rfl),gA rfl (by rw[hl]),gA rfl (by rw[hl];rfl),gA rfl (by rw[hl];rfl),eH⟩⟩
  rw[ey]
  show some (DA.st _)=some (DA.st (XB {x with yl:=365+lp y,dG:=365+lp (y+1),fy:=before y*86400,yw:=yw,mm:=RJ (lp y),mr:=AG (lp y),md:=YK (lp y),nd:=ZK (lp y),XC:=JF 55} 28 34 30 32 26 20 21 22 23 24 25))
  simp only[XB,hl,RJ,YK,ZK,show¬(1:Int)=0 by omega,if_false,g1,g2,g3,g4,e1,DW,Int.toNat_natCast,Nat.zero_add,Nat.mul_one]
 exact⟨[],eN eF eH⟩
structure Fa (x:IT) (y:Int):Prop where
 ly:x.ly=y
 yl:x.yl=365+lp y
 dG:x.dG=365+lp (y+1)
 fy:x.fy=before y*86400
 yw:x.yw=(before y%7).toNat
 mm:x.mm=RJ (lp y)
 mr:x.mr=AG (lp y)
 md:x.md=YK (lp y)
 nd:x.nd=ZK (lp y)
 XC:x.XC=JF 55
theorem o9 (x:IT) (r:RR) (len y m:Int) (hy:2<=y/\y<=15000) (hm:1<=m/\m<=12) (hx:Fa x y) (hr:RB r):
  Fn prog 48 [.p 0 7,I y,I m] (QQ x r len) 26 (.jA []) (Er (EF x r y m)) 34:=by
 have GQ:=tB y
 have k9:=Dr (y:=y) O
 have bf:EF x r y m={x with nw:=FH x r y m,ea:=nF r y x.ea,ly:=y,lm:=m}:=by unfold EF zR;simp only[hx.ly,if_true]
 have qZ:x.yw<=6:=by rw[hx.yw];omega
 rw[bf]
 refine fm (KA yF) func48 λw W G g=> ?_
 repeat' (first
  |refine pC (x:= .seq (.region 0 _ _) _) [(0, .u (.p 0 7)),(1, .u (I y)),(2, .u (I m))] ([(0,some (.st (XB x 26 27 28 29 30 31 21 22 23 24 25))),(1,some (.ro (QE r len))),(21,some (.X 1 3 (A x.nw)))]++AP x r) 32 ?_ ?_
  |refine EH (x:= .seq (.region 73 _ _) _) (Bq x r len y m hm hx.yl hx.mr qZ hx.XC hr.bm.1 hr.bm.2 hr.vA.1 hr.yR hr.vA.2 hr.Cr) (eN eF eH) ?_
  |refine FJ (x:= .seq (.region 106 _ _) _) (fp {x with nw:=FH x r y m} r len y m O hx.yl hr.be.1 (λo ho=>by have:=hr.be.2 o ho;omega) O (λo ho=>by have:=hr.be.2 o ho;omega)) (eN eF eH) ?_
  |refine tk ?_
  |refine And.intro (λZ=>absurd hx.ly (by simp at Z;omega)) (λZ=> ?_)
  |refine CA ?_|refine an ?_ ?_|(intro Z;try simp at Z))
 ·exact⟨[(26,15),(27,16),(28,17),(29,18),(30,19),(31,20)],eL _ eF eH⟩
 ·exact⟨[],eN eF eH⟩
abbrev HX (x:IT):List SV:=XB x 26 27 28 29 30 31 32 33 34 35 36
def gH (x:IT) (r:RR) (len:Int) (T:DA):HS:=[(34,some T),(0,some (.st (HX x))),(1,some (.st (QE r len))),(26,some (.X 1 3 (A x.mm))),(27,some (.X 1 3 (A x.mr))),(28,some (.X 1 3 (A x.md))),(29,some (.X 1 3 (A x.nd))),(30,some (.X 1 3 (A x.XC))),(31,some (.X 1 3 (A x.wn))),(32,some (.X 1 3 (A x.nw))),(33,some (.X 1 3 (A x.ea))),
 (35,some (.X 2 51 (iA x.st))),(36,some (.X 2 194 (uC x.ds)))]++kZ r
theorem Hr:∀(ds:List (Int×Bool)) (j:Nat) (b:Bool),(uC ds).set (2*j+1) (B b)=uC (ds.set j ((ds.getD j (0,false)).1,b))
 |[],j,b=>by simp[uC]
 |p::ds,0,b=>by simp[uC]
 |p::ds,j+1,b=>by
  have:=Hr ds j b
  simp only[uC,List.flatMap_cons,List.cons_append,List.nil_append,List.set_cons_succ,List.getD_cons_succ]at this⊢
  rw[show 2*(j+1)=2*j+1+1 by omega]
  simp only[List.set_cons_succ,this]
theorem r9 {ds:List (Int×Bool)} {o:Nat} {b:Bool} {k:List SV->Prop} (j:Nat) (ho:o=2*j+1) (h:j<ds.length) (hk:k (uC (ds.set j ((ds.getD j (0,false)).1,b)))):JK (uC ds) o [B b] k:=by
 subst ho
 refine yS (by rw[cW];omega) ?_
 show k _
 rw[Hr];exact hk
structure IX (r:RR) (x:IT) (i:Nat):Prop where
 le:i<=400
 mm:i<x.mm.length
 md:i<x.md.length
 nd:i<x.nd.length
 wd:x.yw+i<x.XC.length
 yw:x.yw<=6
 wn:¬r.uB=[]->i<x.wn.length
 nw:¬x.nw=[]->i<x.nw.length
 ea:¬r.be=[]->i<x.ea.length
 yl:365<=x.yl/\x.yl<=366
 dG:365<=x.dG/\x.dG<=366
structure ef (r:RR):Prop where
 bm:r.bm.length<=1000000
 uB:r.uB.length<=1000000
 VC:r.VC.length<=1000000
 be:r.be.length<=1000000
 FC:r.FC.length<=1000000
 GC:r.GC.length<=1000000
 PF:r.PF.length<=1000000
theorem u9 {w:World} {W:Nat->Prop} {G:wA} {g:GW w W} {Q:QT} (x:IT) (r:RR) (len:Int) (T:DA) (hT:∀LA H,WA H 34=some T->LA 34=34->aE LA H 34 T) (dE:Bool) (j i:Nat) (hi:IX r x i) (hr:ef r) (hj:j<x.ds.length) (EP:x.ds.length<=400):
  En.T (cx w W f103.ntmps (KA fE) 26 G g) ((f103.body.bind (ID 11)).getD .skip) [(0, .u (.p 0 0)),(2, .u (.p 1 0)),(5, .u (.s 36 0 x.ds.length)),(6, .u (B dE)),(7, .u (I j)),(9, .u (I i)),(98, .u (.s 36 0 x.ds.length)),(99, .u (I x.ds.length)),(100, .u (I j))]
   (gH x r len T) 37
   (yE (cx w W f103.ntmps (KA fE) 26 G g) [(0, .u (.p 0 0)),(2, .u (.p 1 0)),(5, .u (.s 36 0 x.ds.length)),(6, .u (B (dE||jF r x i))),(98, .u (.s 36 0 x.ds.length)),(99, .u (I x.ds.length)),(100, .u (I j))] (gH {x with ds:=if jF r x i then x.ds.set j ((x.ds.getD j (0,false)).1,false)else x.ds} r len T) 37 Q):=by
 have D:=hi.le
 have h2:=hi.mm
 have h3:=hi.md
 have h4:=hi.nd
 have h5:=hi.wd
 have h6:=hi.yl
 have h7:=hi.dG
 have h8:=hi.yw
 have ei:0+(i:Int).toNat*1=i:=O
 have ew:x.yw+(i:Int).toNat*1=x.yw+i:=O
 repeat' (first
  |refine AD (jF r x i) rfl (by simp only[FM,gW,ei,ew];rfl) ?_
  |refine tk ?_
  |refine r9 j O hj ?_
  |(refine WC 49 (.s 3 0 _::_) ?_;refine cA.R [3] func49 rfl rfl (λ_=>EG _ _ hr.bm) rfl rfl rfl BC rfl ?_)
  |(refine WC 49 (.s 8 0 _::_) ?_;refine cA.R [8] func49 rfl rfl (λ_=>EG _ _ hr.VC) rfl rfl rfl BC rfl ?_)
  |(refine WC 49 (.s 4 0 _::_) ?_;refine cA.R [4] func49 rfl rfl (λ_=>EG _ _ hr.FC) rfl rfl rfl BC rfl ?_)
  |(refine WC 49 (.s 5 0 _::_) ?_;refine cA.R [5] func49 rfl rfl (λ_=>EG _ _ hr.GC) rfl rfl rfl BC rfl ?_)
  |(refine WC 49 (.s 6 0 _::_) ?_;refine cA.R [6] func49 rfl rfl (λ_=>EG _ _ hr.PF) rfl rfl rfl BC rfl ?_)
  |refine And.intro (λhc=>by simp at hc;have:=hi.wn hc.2;omega) ?_
  |refine And.intro (λhc=>by simp at hc;have:=hi.nw hc.2;omega) ?_
  |refine And.intro (λhc=>by simp at hc;have:=hi.ea hc.2;omega) ?_
  |refine Kz (λhc=>by simp at hc;first|omega|(have:=hi.wn hc.2;omega)|(have:=hi.nw hc.2;omega)|(have:=hi.ea hc.2;omega)) ?_
  |refine CA ?_|refine an ?_ ?_|(intro Z;try simp at Z))
 ·rw[if_pos Z,Z,Bool.or_true]
  refine⟨[],eN eF ⟨hT _ _ rfl rfl,?_,eH⟩⟩
  show some (DA.st _)=some (DA.st (HX {x with ds:=x.ds.set j ((x.ds.getD j (0,false)).1,false)}))
  simp only[XB,List.length_set]
 ·rw[Z,Bool.or_false]
  exact⟨[],eN eF ⟨hT _ _ rfl rfl,eH⟩⟩
end En
end Go.Proofs.YtkidgehblodbcaaGreatDoor
