/- A part of the proof of FnTextFirst: plain lemmas on the calendar and on texts. -/
import Derived.Lib.Atoi
import Derived.Lib.Case
import Derived.Lib.ItoaMem
import Derived.Lib.Join
import Derived.Lib.Space
import GoSem.Core.Float
import Derived.Test.YtkidgehblodbcaaGreatDoorA01
set_option linter.all false
set_option maxRecDepth 100000
set_option maxHeartbeats 16000000
namespace Go.Proofs.YtkidgehblodbcaaGreatDoor
section
def eC (s:Int) (n:Nat):List Int:=(List.range n).map λ(i:Nat)=>s+i
@[simp] theorem yc (s:Int) (n:Nat):(eC s n).length=n:=by simp[eC]
theorem ql (s:Int) (n:Nat):eC s (n+1)=eC s n++[s+n]:=by simp[eC,List.range_succ]
def sP:List Int:=[List.replicate 31 1,List.replicate 29 2,List.replicate 31 3,List.replicate 30 4,List.replicate 31 5,List.replicate 30 6,List.replicate 31 7,List.replicate 31 8,List.replicate 30 9,List.replicate 31 10,List.replicate 30 11,List.replicate 31 12,List.replicate 7 1].flatten
def rl (a b c:List Int) (d:List Int):List Int:=[c,a,c,b,c,b,c,c,b,c,b,c,d].flatten
def tP:List Int:=rl (eC 1 29) (eC 1 30) (eC 1 31) (eC 1 7)
def uP:List Int:=rl (eC (-29) 29) (eC (-30) 30) (eC (-31) 31) (eC (-31) 7)
def yL (l:List Int) (n:Nat):List Int:=[l.take n,l.drop (n+1)].flatten
def RJ (l:Int):List Int:=if l=0 then yL sP 59 else sP
def YK (l:Int):List Int:=if l=0 then yL tP 59 else tP
def ZK (l:Int):List Int:=if l=0 then yL uP 31 else uP
def AG (l:Int):List Int:=(List.range 13).map λ(m:Nat)=>GB l (m+1)
def JF (n:Nat):List Int:=(List.range (7*n)).map λ(i:Nat)=>(i:Int)%7
@[simp] theorem DW (n:Nat):(JF n).length=7*n:=by simp[JF]
theorem C2 (n:Nat):JF (n+1)=JF n++[0,1,2,3,4,5,6]:=by
 unfold JF
 rw[show 7*(n+1)=7*n+1+1+1+1+1+1+1 by omega]
 simp only[List.range_succ,List.map_append,List.map_cons,List.map_nil,List.append_assoc,List.cons_append,List.nil_append]
 congr 1
 simp only[List.cons.injEq,and_true]
 omega
theorem zc {n i:Nat} (h:i<7*n):(JF n).getD i 0=(i:Int)%7:=by
 rw[List.getD_eq_getElem?_getD,List.getElem?_eq_getElem (by rw[DW];exact h)]
 simp[JF]
theorem Ad:sP.length=373:=by decide +kernel
theorem Bd:tP.length=373:=by decide +kernel
theorem Cd:uP.length=373:=by decide +kernel
theorem JFA {l:List Int} {n:Nat} (h:n<l.length):(yL l n).length=l.length-1:=by
 simp[yL];omega
theorem D2 {l:Int} (h:l=0\/l=1):(RJ l).length=(372+l).toNat:=by rcases h with rfl|rfl<;>decide +kernel
theorem E2 {l:Int} (h:l=0\/l=1):(YK l).length=(372+l).toNat:=by rcases h with rfl|rfl<;>decide +kernel
theorem G2 {l:Int} (h:l=0\/l=1):(ZK l).length=(372+l).toNat:=by rcases h with rfl|rfl<;>decide +kernel
def Dd (l:Int):Bool:=(List.range (365+l).toNat).all λ(i:Nat)=>
 (RJ l).getD i 0==BE l i&&(YK l).getD i 0==(i:Int)-GB l (BE l i)+1&&(ZK l).getD i 0==(i:Int)-GB l (BE l i+1)
def Ed (l:Int):Bool:=(List.range 7).all λ(i:Nat)=>(RJ l).getD ((365+l).toNat+i) 0==1
theorem I2:Dd 0=true:=by decide +kernel
theorem J2:Dd 1=true:=by decide +kernel
theorem L2:Ed 0=true:=by decide +kernel
theorem N2:Ed 1=true:=by decide +kernel
theorem Gd {l:Int} (h:l=0\/l=1) {i:Nat} (hi:(i:Int)<365+l):(RJ l).getD i 0=BE l i/\(YK l).getD i 0=(i:Int)-GB l (BE l i)+1/\(ZK l).getD i 0=(i:Int)-GB l (BE l i+1):=by
 have:Dd l=true:=by rcases h with rfl|rfl;exact I2;exact J2
 have:=List.all_eq_true.1 this i (List.mem_range.2 O)
 simp only[Bool.and_eq_true,beq_iff_eq]at this
 exact⟨this.1.1,this.1.2,this.2⟩
theorem O2 {l:Int} (h:l=0\/l=1) {i:Nat} (D:365+l<=(i:Int)) (hi:(i:Int)<372+l):(RJ l).getD i 0=1:=by
 have:Ed l=true:=by rcases h with rfl|rfl;exact L2;exact N2
 have:=List.all_eq_true.1 this (i- (365+l).toNat) (List.mem_range.2 O)
 rw[beq_iff_eq]at this
 rwa [show(365+l).toNat+(i- (365+l).toNat)=i by omega]at this
theorem wY {l:Int} {m:Nat} (h:m<13):(AG l).getD m 0=GB l (m+1):=by
 rw[List.getD_eq_getElem?_getD,List.getElem?_eq_getElem (by simp[AG];exact h)]
 simp[AG]
theorem P2 {y:Int} (h:0<=y/\y<=100000):PI y-PI y/28*(1-PI y/28*(29/(PI y+1))*((21-y%19)/11))=PH y:=by
 have he:=cY h
 unfold PH
 rcases(by omega:PI y<28\/PI y=28\/PI y=29)with D|D|D
 ·rw[if_pos D,show PI y/28=0 by omega];simp
 ·rw[if_neg O,if_pos D,D];simp;omega
 ·rw[if_neg O,if_neg O,D];simp
theorem Q2 {y p:Int} (hp: -6<=p/\p<=28):NA y (3+(p+26)/30) (1+(p+27+(p+6)/40)%31)=NA y 3 28+p:=by
 have h3:GB (lp y) 3=59+lp y:=by simp[GB]
 have h4:GB (lp y) 4=90+lp y:=by simp[GB]
 unfold NA
 rcases(by omega:p<=3\/4<=p)with h|h
 ·rw[show 3+(p+26)/30=3 by omega];omega
 ·rw[show 3+(p+26)/30=4 by omega,h3,h4];omega
def marks (l:List Int) (ps:List Nat):List Int:=ps.foldl (λl p=>l.set p 1) l
theorem aK:∀(ps:List Nat) (l:List Int),(marks l ps).length=l.length
 |[],l=>rfl
 |p::ps,l=>by show(marks (l.set p 1) ps).length=_;rw[aK ps];simp
theorem ul {i:Nat}:∀(ps:List Nat) (l:List Int),i<l.length->(marks l ps).getD i 0=if i∈ps then 1 else l.getD i 0
 |[],l,h=>by simp[marks]
 |p::ps,l,h=>by
  show(marks (l.set p 1) ps).getD i 0=_
  rw[ul ps (l.set p 1) (by simpa using h)]
  by_cases D:i∈ps
  ·simp[D]
  ·by_cases h2:i=p
   ·subst h2;simp[D,List.getD_eq_getElem?_getD,List.getElem?_set,h]
   ·have h3:¬p=i:=λe=>h2 e.symm
    simp[D,h2,List.getD_eq_getElem?_getD,List.getElem?_set,h3]
theorem Hd {i N:Nat} (ps:List Nat) (h:i<N):(marks (List.replicate N 0) ps).getD i 0=if i∈ps then 1 else 0:=by
 rw[ul ps _ (by simpa using h)]
 simp[List.getD_eq_getElem?_getD,List.getElem?_replicate,h]
def sM (yw:Nat) (i wk:Int):Nat:=((wk- (yw+i)-1)%7).toNat+1
def run (i:Int) (k:Nat):List Nat:=(List.range k).map λ(j:Nat)=>(i+(j:Int)).toNat
theorem xY {i:Int} {k p:Nat} (h:0<=i):p∈run i k↔i<=p/\(p:Int)<i+k:=by
 simp only[run,List.mem_map,List.mem_range]
 constructor
 ·rintro⟨j,hj,rfl⟩;omega
 ·rintro⟨D,h2⟩;exact⟨(p-i).toNat,O,O⟩
def QI (fw n1 q:Int):Int:=if q>1 then(if n1≠fw then n1+(q-1)*7- (7-fw)else n1+(q-1)*7)else n1
def RI (nw n:Int):Int:=if n<0 then n+(nw+1)else n
def wQ (yw:Nat) (wk fw n1 nw n:Int):List Nat:=if 0<RI nw n/\RI nw n<=nw then run (QI fw n1 (RI nw n)) (sM yw (QI fw n1 (RI nw n)) wk)else[]
def cE (y wk:Int):Int:=(7-before y%7+wk)%7
def iE (y wk:Int):Int:=if cE y wk>=4 then 0 else cE y wk
def WR (y wk:Int):Int:=if cE y wk>=4 then 365+lp y+(before y%7-wk)%7 else 365+lp y-cE y wk
def WD (y wk:Int):Int:=WR y wk/7+WR y wk%7/4
def GD (y wk:Int):Int:=if cE y wk>=4 then cE y wk-7 else cE y wk
theorem EW (y wk:Int):0<=cE y wk/\cE y wk<=6:=by unfold cE;omega
theorem tT {y wk:Int} (h:0<=wk/\wk<=6):VK y wk=before y+GD y wk:=by
 unfold VK GD cE;simp only;split<;>split<;>omega
theorem vl {y wk:Int} (h:0<=wk/\wk<=6):WR y wk=365+lp y-GD y wk:=by
 unfold WR GD cE;split<;>omega
theorem yY {y wk:Int} (h:0<=wk/\wk<=6):365+lp y+GD (y+1) wk=GD y wk+7*WD y wk:=by
 have hw:=vl (y:=y) h
 have Z:=NG y
 unfold WD
 rw[hw]
 unfold GD cE
 rw[Z]
 split<;>split<;>omega
theorem Jd {y wk:Int} (h:0<=wk/\wk<=6):qM y wk=WD y wk:=by
 have:=yY (y:=y) h
 have Z:=NG y
 unfold qM;rw[tT h,tT h];omega
theorem FW {y wk:Int} (h:0<=wk/\wk<=6):52<=WD y wk/\WD y wk<=53:=by
 have:=tB y;unfold WD WR cE;split<;>omega
theorem XR (y wk:Int): -3<=GD y wk/\GD y wk<=3:=by unfold GD cE;split<;>omega
theorem xl {y wk q:Int} (h:1<q):QI (cE y wk) (iE y wk) q=GD y wk+(q-1)*7:=by
 have:=EW y wk
 unfold QI iE GD;rw[if_pos h];(repeat' split)<;>omega
theorem Kd {y wk n:Int} (h:0<=wk/\wk<=6) (hn: -60<=n/\n<=60) (i:Nat):i∈wQ (before y%7).toNat wk (cE y wk) (iE y wk) (WD y wk) n↔0<RI (WD y wk) n/\RI (WD y wk) n<=WD y wk/\((i:Int)-GD y wk)/7+1=RI (WD y wk) n:=by
 have Z:=XR y wk
 have hf:=EW y wk
 unfold wQ
 by_cases hc:0<RI (WD y wk) n/\RI (WD y wk) n<=WD y wk
 ·rw[if_pos hc]
  generalize RI (WD y wk) n=q at*
  by_cases hq:1<q
  ·rw[xl hq,xY O]
   have e:sM (before y%7).toNat (GD y wk+(q-1)*7) wk=7:=by
    unfold sM GD cE;split<;>omega
   rw[e];omega
  ·have WK:q=1:=O
   subst WK
   have e0:QI (cE y wk) (iE y wk) 1=iE y wk:=by unfold QI;rw[if_neg O]
   have h0:0<=iE y wk:=by unfold iE;split<;>omega
   rw[e0,xY h0]
   have e:iE y wk+(sM (before y%7).toNat (iE y wk) wk:Int)=GD y wk+7:=by
    unfold sM iE GD cE;split<;>omega
   have e2:(iE y wk<=(i:Int))↔GD y wk<=i:=by unfold iE GD cE;split<;>omega
   rw[e,e2];omega
 ·rw[if_neg hc]
  simp only[List.not_mem_nil,false_iff]
  rintro⟨D,h2,_⟩;exact hc ⟨D,h2⟩
def YR (y wk:Int) (l:List Int):List Nat:=if 1∈l/\GD y wk+7*WD y wk<365+lp y then run (GD y wk+7*WD y wk) 7 else[]
def vP (y wk:Int) (l:List Int):List Nat:=if iE y wk≠0/\-1∈l then run 0 (iE y wk).toNat else[]
def HW (y wk:Int) (l:List Int):List Nat:=(l.flatMap (wQ (before y%7).toNat wk (cE y wk) (iE y wk) (WD y wk)))++YR y wk l++vP y wk l
theorem S2 {y wk:Int} {l:List Int} (h:0<=wk/\wk<=6) (hl:∀n∈l,n≠0/\-51<=n/\n<=51) {i:Nat} (hi:(i:Int)<365+lp y) (LC:l≠[]):
  i∈HW y wk l↔tI l (sA (before y+i) wk) (qM (nE (before y+i) wk) wk)=true:=by
 have Z:=XR y wk
 have qC:=XR (y+1) wk
 have hf:=EW y wk
 have JL:=yY (y:=y) h
 have xG:=FW (y:=y) h
 have gM:=NG y
 have BV:oA (before y+i)=y:=MR O O
 have cG:iE y wk=if GD y wk<=0 then 0 else GD y wk:=by unfold iE GD cE;split<;>split<;>omega
 have he:l.isEmpty=false:=by cases l with|nil=>exact absurd rfl LC|cons=>rfl
 have f1:=tT (y:=y) h
 have f2:=tT (y:=y+1) h
 have hz:∀n∈l,RI (WD y wk) n=if n<0 then n+(WD y wk+1)else n:=λn _=>rfl
 simp only[HW,List.mem_append,List.mem_flatMap,tI,he,Bool.false_or,Bool.or_eq_true,List.contains_iff_mem]
 have q1:(∃n,n∈l/\i∈wQ (before y%7).toNat wk (cE y wk) (iE y wk) (WD y wk) n)↔(0<=((i:Int)-GD y wk)/7/\((i:Int)-GD y wk)/7<WD y wk/\(((i:Int)-GD y wk)/7+1∈l\/((i:Int)-GD y wk)/7-WD y wk∈l)):=by
  constructor
  ·rintro⟨n,hn,hm⟩
   have hr:=hl n hn
   rw[Kd h O]at hm
   obtain⟨m1,m2,m3⟩:=hm
   unfold RI at m1 m2 m3
   by_cases uJ:n<0
   ·rw[if_pos uJ]at m1 m2 m3
    refine⟨O,O, .inr ?_⟩
    rw[show((i:Int)-GD y wk)/7-WD y wk=n by omega];exact hn
   ·rw[if_neg uJ]at m1 m2 m3
    refine⟨O,O, .inl ?_⟩
    rw[m3];exact hn
  ·rintro⟨m1,m2,m3|m3⟩
   ·refine⟨_,m3,?_⟩
    have:=hl _ m3
    rw[Kd h O]
    unfold RI;rw[if_neg O];omega
   ·refine⟨_,m3,?_⟩
    have:=hl _ m3
    rw[Kd h O]
    unfold RI;rw[if_pos O];omega
 have q2:i∈YR y wk l↔GD y wk+7*WD y wk<=i/\1∈l:=by
  unfold YR
  split
  ·rename_i hc;rw[xY O];constructor
   ·rintro⟨a,b⟩;exact⟨a,hc.1⟩
   ·rintro⟨a,b⟩;exact⟨a,O⟩
  ·rename_i hc
   simp only[List.not_mem_nil,false_iff]
   rintro⟨a,b⟩;exact hc ⟨b,O⟩
 have q3:i∈vP y wk l↔(i:Int)<GD y wk/\-1∈l:=by
  have mO:(iE y wk=0/\GD y wk<=0)\/(iE y wk=GD y wk/\0<GD y wk):=by rw[cG];split<;>omega
  unfold vP
  by_cases hc:iE y wk≠0/\-1∈l
  ·rw[if_pos hc,xY (Int.le_refl 0)]
   constructor
   ·rintro⟨a,b⟩;exact⟨O,hc.2⟩
   ·rintro⟨a,b⟩;exact⟨O,O⟩
  ·rw[if_neg hc]
   simp only[List.not_mem_nil,false_iff]
   rintro⟨a,b⟩;exact hc ⟨O,b⟩
 rw[q1,q2,q3]
 have zl:∀m:Int,m∈l->-51<=m/\m<=51/\m≠0:=λm hm=>by have:=hl m hm;omega
 by_cases c1:(i:Int)<GD y wk
 ·have hw:nE (before y+i) wk=y-1:=by unfold nE;rw[BV,if_pos O]
  have T2:=yY (y:=y-1) h
  have U2:=FW (y:=y-1) h
  have V2:=NG (y-1)
  have lH:=XR (y-1) wk
  rw[show y-1+1=y by omega]at T2 V2
  have TR:sA (before y+i) wk=WD (y-1) wk:=by
   unfold sA;rw[hw,tT h];omega
  rw[hw,Jd h,TR]
  constructor
  ·rintro((⟨a,_⟩|⟨a,_⟩)|⟨_,b⟩)
   ·omega
   ·omega
   ·right;rw[show WD (y-1) wk-WD (y-1) wk-1= -1 by omega];exact b
  ·rintro(a|a)
   ·have:=zl _ a;omega
   ·right;rw[show WD (y-1) wk-WD (y-1) wk-1= -1 by omega]at a;exact⟨c1,a⟩
 ·by_cases c2:GD y wk+7*WD y wk<=i
  ·have hw:nE (before y+i) wk=y+1:=by unfold nE;rw[BV,if_neg O,if_pos O]
   have TR:sA (before y+i) wk=1:=by unfold sA;rw[hw,tT h];omega
   have U2:=FW (y:=y+1) h
   rw[hw,Jd h,TR]
   constructor
   ·rintro((⟨_,a,_⟩|⟨_,b⟩)|⟨a,_⟩)
    ·omega
    ·left;exact b
    ·omega
   ·rintro(a|a)
    ·left;right;exact⟨c2,a⟩
    ·have:=zl _ a;omega
  ·have hw:nE (before y+i) wk=y:=by unfold nE;rw[BV,if_neg O,if_neg O]
   have TR:sA (before y+i) wk=((i:Int)-GD y wk)/7+1:=by
    unfold sA;rw[hw,f1];congr 2;omega
   rw[hw,Jd h,TR]
   rw[show((i:Int)-GD y wk)/7+1-WD y wk-1=((i:Int)-GD y wk)/7-WD y wk by omega]
   constructor
   ·rintro((⟨_,_,a⟩|⟨a,_⟩)|⟨a,_⟩)
    ·exact a
    ·omega
    ·omega
   ·intro a;left;left;exact⟨O,O,a⟩
def pI (f e:Int) (p:Int×Int):Int:=if p.2<0 then e+(p.2+1)*7 else f+(p.2-1)*7
def pZ (yw:Nat) (f e:Int) (p:Int×Int):Int:=if p.2<0 then pI f e p- ((yw+pI f e p)%7-p.1)%7 else pI f e p+(7- (yw+pI f e p)%7+p.1)%7
def nQ (yw:Nat) (f e:Int) (l:List (Int×Int)):List Nat:=l.filterMap λp=>if f<=pZ yw f e p/\pZ yw f e p<=e then some (pZ yw f e p).toNat else none
def nP (yw:Nat) (rg l:List (Int×Int)):List Nat:=rg.flatMap λg=>nQ yw g.1 (g.2-1) l
def ZR (yw:Nat) (f e i:Int) (p:Int×Int):Prop:=(yw+i)%7=p.1/\((i-f)/7+1=p.2∨-((e-i)/7+1)=p.2)
theorem Am {yw:Nat} {f e i:Int} {p:Int×Int} (hw:0<=p.1/\p.1<=6) (hn:p.2≠0) (hi:f<=i/\i<=e):pZ yw f e p=i↔ZR yw f e i p:=by
 obtain⟨w,n⟩:=p
 dsimp only at hw hn
 unfold pZ pI ZR;dsimp only
 by_cases h:n<0
 ·simp only[if_pos h];omega
 ·simp only[if_neg h];omega
theorem Bm {yw:Nat} {f e:Int} {l:List (Int×Int)} (hf:0<=f) (hl:∀p∈l,0<=p.1/\p.1<=6/\p.2≠0) {i:Nat}:i∈nQ yw f e l↔(f<=i/\(i:Int)<=e)/\∃p∈l,ZR yw f e i p:=by
 simp only[nQ,List.mem_filterMap]
 constructor
 ·rintro⟨p,hp,h⟩
  split at h
  ·rename_i hc
   cases h
   have e1:(((pZ yw f e p).toNat:Nat):Int)=pZ yw f e p:=O
   rw[e1]
   exact⟨hc,p,hp,(Am ⟨(hl p hp).1,(hl p hp).2.1⟩ (hl p hp).2.2 hc).1 rfl⟩
  ·cases h
 ·rintro⟨hc,p,hp,h⟩
  have:=(Am ⟨(hl p hp).1,(hl p hp).2.1⟩ (hl p hp).2.2 hc).2 h
  exact⟨p,hp,by rw[this,if_pos hc];simp⟩
theorem W2 {yw:Nat} {rg l:List (Int×Int)} (hf:∀g∈rg,0<=g.1) (hl:∀p∈l,0<=p.1/\p.1<=6/\p.2≠0) {i:Nat}:i∈nP yw rg l↔∃g∈rg,(g.1<=i/\(i:Int)<g.2)/\∃p∈l,ZR yw g.1 (g.2-1) i p:=by
 simp only[nP,List.mem_flatMap]
 constructor
 ·rintro⟨g,hg,h⟩
  obtain⟨D,h2⟩:=(Bm (hf g hg) hl).1 h
  exact⟨g,hg,⟨D.1,O⟩,h2⟩
 ·rintro⟨g,hg,D,h2⟩
  exact⟨g,hg,(Bm (hf g hg) hl).2 ⟨⟨D.1,O⟩,h2⟩⟩
def SI (BA:Int) (bm:List Int) (l m:Int):List (Int×Int):=
 if BA=0 then(if bm=[]then[(0,365+l)]else bm.map λm=>(GB l m,GB l (m+1)))else if BA=1 then[(GB l m,GB l (m+1))]else[]
end
namespace En
structure RR where
 BA:Int
 dt:Int
 EA:Int
 wk:Int
 EB:Int
 XA:Int
 un:Int
 sp:List Int
 bm:List Int
 FC:List Int
 GC:List Int
 PF:List Int
 uB:List Int
 VC:List Int
 vA:List (Int×Int)
 bh:List Int
 bi:List Int
 bs:List Int
 be:List Int
 ts:List Int
structure IT where
 y:Int
 m:Int
 d:Int
 hh:Int
 mi:Int
 s:Int
 wd:Int
 ly:Int
 lm:Int
 yl:Int
 dG:Int
 fy:Int
 yw:Nat
 mm:List Int
 mr:List Int
 md:List Int
 nd:List Int
 XC:List Int
 wn:List Int
 nw:List Int
 ea:List Int
 ts:List Int
 total:Int
 count:Int
 st:List Int
 so:Nat
 sl:Nat
 fin:Bool
 ds:List (Int×Bool)
def zE (dt XA:Int):List Int->List Int->Int->List Int×Int×Bool
 |[],E,c=>(E,c,false)
 |t::r,E,c=>if XA<t then(E,c,true)else if t<dt then zE dt XA r E c else if c=1 then(E++[t],0,true)else zE dt XA r (E++[t]) (if c=0 then 0 else c-1)
def vJ (x:IT) (i:Int):List Int:=x.ts.map λt=>x.fy+i*86400+t
def yG (x:IT) (ds:List (Int×Bool)):List Int:=ds.flatMap λp=>if p.2 then vJ x p.1 else[]
theorem Cm (x:IT) (p:Int×Bool) (ds:List (Int×Bool)):yG x (p::ds)=(if p.2 then vJ x p.1 else[])++yG x ds:=by simp[yG]
theorem X2 {x:IT} {ds:List (Int×Bool)} {j:Nat} (h:j<ds.length):yG x (ds.drop j)=(if(ds.getD j (0,false)).2 then vJ x (ds.getD j (0,false)).1 else[])++yG x (ds.drop (j+1)):=by
 rw[List.drop_eq_getElem_cons h,Cm,List.getD_eq_getElem?_getD,List.getElem?_eq_getElem h];rfl
theorem Y2 {x:IT} {i:Int} {q:Nat} (h:q<x.ts.length):(vJ x i).drop q=(x.fy+i*86400+x.ts.getD q 0)::(vJ x i).drop (q+1):=by
 rw[List.drop_eq_getElem_cons (by simpa [vJ]using h)]
 simp[vJ,List.getD_eq_getElem?_getD,List.getElem?_eq_getElem h]
theorem Z2 (x:IT) (i:Int) {q:Nat} (h:x.ts.length<=q):(vJ x i).drop q=[]:=List.drop_of_length_le (by simpa [vJ]using h)
def nD (s E:List Int):List Int:=if E=[]then s else E
theorem aR (s E:List Int) (t:Int):(nD s E).take E.length++[t]=nD s (E++[t]):=by
 unfold nD
 by_cases h:E=[]
 ·subst h;simp
 ·rw[if_neg h,if_neg (by simp)];simp
theorem IW (s E:List Int):E.length<=(nD s E).length:=by
 unfold nD;split
 ·rename_i h;subst h;simp
 ·exact qA
theorem Dm (s:List Int):nD s []=s:=if_pos rfl
def QF (ds:List (Int×Bool)):List Int:=(ds.filter (·.2)).map (·.1)
def KL (x:IT) (DC:List Int) (pos:Int):Option Int:=
 let a:=if pos<0 then pos else pos-1
 let k:=if a/(x.ts.length:Int)<0 then a/(x.ts.length:Int)+DC.length else a/(x.ts.length:Int)
 if 0<=k/\k<DC.length then some (x.fy+DC.getD k.toNat 0*86400+x.ts.getD (a%(x.ts.length:Int)).toNat 0)else none
def fN (l:List Int) (o:Option Int):List Int:=match o with
 |some u=>if l.contains u then l else l++[u]
 |none=>l
def YF (x:IT) (sp:List Int):List Int:=sp.foldl (λl p=>fN l (KL x (QF x.ds) p)) []
theorem Em {x:IT} {sp:List Int} {k:Nat} (h:k<sp.length):YF x (sp.take (k+1))=fN (YF x (sp.take k)) (KL x (QF x.ds) (sp.getD k 0)):=by
 unfold YF
 rw[List.take_succ_eq_append_getElem h,List.foldl_append,List.getD_eq_getElem?_getD,List.getElem?_eq_getElem h];rfl
theorem uT (x:IT):∀(sp:List Int) (k:Nat),(YF x (sp.take k)).length<=k
 |sp,0=>by simp[YF]
 |sp,k+1=>by
  rcases Nat.lt_or_ge k sp.length with h|h
  ·rw[Em h]
   have:=uT x sp k
   unfold fN;split
   ·split
    ·omega
    ·simp;omega
   ·omega
  ·have:=uT x sp k
   rw[List.take_of_length_le h]at this
   rw[List.take_of_length_le O];omega
theorem x2 {ds:List (Int×Bool)} {q:Nat} (h:q<ds.length) {i:Int} {b:Bool} (hp:ds.getD q (0,false)=(i,b)):QF (ds.take (q+1))=QF (ds.take q)++(if b then[i]else[]):=by
 rw[List.getD_eq_getElem?_getD,List.getElem?_eq_getElem h]at hp
 simp only[Option.getD_some]at hp
 unfold QF
 rw[List.take_succ_eq_append_getElem h,List.filter_append,List.map_append,hp]
 cases b<;>simp
theorem A3 (ds:List (Int×Bool)):(QF ds).length<=ds.length:=by
 unfold QF;rw[List.length_map];exact List.length_filter_le _ _
def TH (sp:List Int) (x:IT):List Int:=if sp≠[]/\x.ts≠[]then(YF x sp).mergeSort λa b=>decide (a<=b)else yG x x.ds
abbrev OC:=marks
def wJ (r:RR) (y:Int):List Nat:=r.be.map λo=>(idxOf (wC y)+o).toNat
def nF (r:RR) (y:Int) (ea:List Int):List Int:=if r.be.length=0 then ea else OC (List.replicate (365+lp y+7).toNat 0) (wJ r y)
def LL (y:Int):List Int:=List.replicate (365+lp y+7).toNat 0
def eG (r:RR) (y:Int):List Int:=if r.uB.length=0 then[]else marks (LL y) (HW y r.wk r.uB)
def SJ (l:Int):List Int:=List.replicate (365+l).toNat 0
def BG (r:RR) (y m:Int):List Int:=if 0<r.vA.length then marks (SJ (lp y)) (nP (before y%7).toNat (SI r.BA r.bm (lp y) m) r.vA)else[]
def SD (a b:Nat):List (Int×Bool):=(List.range' a (b-a)).map λ(i:Nat)=>((i:Int),true)
def oD (b:Int) (l:List Int):List Int:=l.map λs=>b+s
def AF (b:Int) (B3 ss:List Int):List Int:=B3.flatMap λmi=>oD (b+mi*60) ss
abbrev YE (l:List Int):List Int:=l.mergeSort λx y=>decide (x<=y)
def jF (r:RR) (x:IT) (i:Nat):Bool:=
 ((r.bm.length:Int) !=0&& !r.bm.contains (x.mm.getD i 0))||((r.uB.length:Int) !=0&&x.wn.getD i 0==0)||((r.VC.length:Int) !=0&& !r.VC.contains (x.XC.getD (x.yw+i) 0))||((x.nw.length:Int) !=0&&x.nw.getD i 0==0)||((r.be.length:Int) !=0&&x.ea.getD i 0==0)||
 (((r.FC.length:Int) !=0||(r.GC.length:Int) !=0)&& !r.FC.contains (x.md.getD i 0)&& !r.GC.contains (x.nd.getD i 0))||
 ((r.PF.length:Int) !=0&&(decide ((i:Int)<x.yl)&& !r.PF.contains ((i:Int)+1)&& !r.PF.contains (-x.yl+(i:Int))||decide ((i:Int)>=x.yl)&& !r.PF.contains ((i:Int)+1-x.yl)&& !r.PF.contains (-x.dG+(i:Int)-x.yl)))
def RG (r:RR) (x:IT) (l:List (Int×Bool)) (j:Nat):List (Int×Bool):=(l.take j).map (λp=>(p.1,!jF r x p.1.toNat))++l.drop j
def tM (r:RR) (x:IT) (l:List (Int×Bool)) (j:Nat):Bool:=(l.take j).any λp=>jF r x p.1.toNat
abbrev CG:=sM
structure CR where
 y:Int
 m:Int
 d:Int
 hh:Int
 mi:Int
 s:Int
 wd:Int
 ts:List Int
 total:Int
 count:Int
 st:List Int
 so:Nat
 sl:Nat
 ds:List (Int×Bool)
def QA (r:RR) (c:CR):IT where
 y:=c.y
 m:=c.m
 d:=c.d
 hh:=c.hh
 mi:=c.mi
 s:=c.s
 wd:=c.wd
 ly:=c.y
 lm:=c.m
 yl:=365+lp c.y
 dG:=365+lp (c.y+1)
 fy:=before c.y*86400
 yw:=(before c.y%7).toNat
 mm:=RJ (lp c.y)
 mr:=AG (lp c.y)
 md:=YK (lp c.y)
 nd:=ZK (lp c.y)
 XC:=JF 55
 wn:=eG r c.y
 nw:=BG r c.y c.m
 ea:=nF r c.y []
 ts:=c.ts
 total:=c.total
 count:=c.count
 st:=c.st
 so:=c.so
 sl:=c.sl
 fin:=false
 ds:=c.ds
def sC (x:IT) (c:CR):IT:={x with y:=c.y,m:=c.m,d:=c.d,hh:=c.hh,mi:=c.mi,s:=c.s,wd:=c.wd,ts:=c.ts,total:=c.total,count:=c.count,st:=c.st,so:=c.so,sl:=c.sl,fin:=false,ds:=c.ds}
def YB (r:RR) (c:CR):Nat×Nat:=
 if r.BA=0 then(0,(365+lp c.y).toNat)else if r.BA=1 then((GB (lp c.y) c.m).toNat,(GB (lp c.y) (c.m+1)).toNat)
 else if r.BA=2 then((idxOf (KD c.y c.m c.d)).toNat,(idxOf (KD c.y c.m c.d)).toNat+CG (before c.y%7).toNat (idxOf (KD c.y c.m c.d)) r.wk)
 else((idxOf (KD c.y c.m c.d)).toNat,(idxOf (KD c.y c.m c.d)).toNat+1)
def oF (r:RR) (c:CR):CR:={c with ds:=SD (YB r c).1 (YB r c).2}
def rD (r:RR) (c:CR):CR:={c with ds:=RG r (QA r (oF r c)) (QA r (oF r c)).ds (QA r (oF r c)).ds.length}
def rF (r:RR) (c:CR):Bool:=tM r (QA r (oF r c)) (QA r (oF r c)).ds (QA r (oF r c)).ds.length
def rE (r:RR) (c:CR):List Int×Int×Bool:=zE r.dt r.XA (TH r.sp (QA r (rD r c))) [] c.count
def oC (c:CR) (E:List Int) (n:Int):CR:={c with st:=nD c.st E,so:=0,sl:=E.length,total:=c.total+E.length,count:=n}
def rO (r:RR) (c:CR):CR:=oC (rD r c) (rE r c).1 (rE r c).2.1
def bK (r:RR) (c:CR):Option CR:=if c.y+r.EA>9999 then none else some {c with y:=c.y+r.EA}
def fG (r:RR) (c:CR):Option CR:=
 if c.m+r.EA>12 then(if(if(c.m+r.EA)%12=0 then c.y+(c.m+r.EA)/12-1 else c.y+(c.m+r.EA)/12)>9999 then none else some {c with y:=if(c.m+r.EA)%12=0 then c.y+(c.m+r.EA)/12-1 else c.y+(c.m+r.EA)/12,m:=if(c.m+r.EA)%12=0 then 12 else(c.m+r.EA)%12})
 else some {c with m:=c.m+r.EA}
def fixC (c:CR) (d:Int):Option CR:=if oA (NA c.y c.m d)>9999 then none else some {c with y:=oA (NA c.y c.m d),m:=KB (NA c.y c.m d),d:=JC (NA c.y c.m d)}
def ML (r:RR) (c:CR):Option CR:=fixC {c with wd:=r.wk} (if r.wk>c.wd then c.d+(-(c.wd+1+(6-r.wk))+r.EA*7)else c.d+(-(c.wd-r.wk)+r.EA*7))
def vM (r:RR) (c:CR):Option CR:=fixC c (c.d+r.EA)
def TC (QB:RR->CR->Option CR) (r:RR):Nat->CR->CR⊕(List Int×Nat)
 |0,c=> .inl c
 |n+1,c=>if c.sl≠0 then .inl c else if(rE r c).2.2=true then .inr (nD c.st (rE r c).1,(rE r c).1.length)else match QB r (rO r c)with
  |none=> .inr (nD c.st (rE r c).1,(rE r c).1.length)
  |some c'=>TC QB r n c'
def OE (p:Int->Bool) (EA:Int):Nat->Int->Option Int
 |0,_=>none
 |k+1,t=>if p (t+EA)then some (t+EA)else OE p EA k (t+EA)
theorem Fm {p:Int->Bool} {tA:Int} (hp:∀t,p (t+tA)=p t) (EA:Int):∀(k:Nat) (t:Int),OE p EA k (t+tA)=(OE p EA k t).map (·+tA)
 |0,t=>rfl
 |k+1,t=>by
  unfold OE
  rw[show t+tA+EA=t+EA+tA by omega,hp,Fm hp EA k]
  split<;>rfl
theorem zY {p:Int->Bool} {EA:Int} (hi:1<=EA):∀{k:Nat} {t R:Int},OE p EA k t=some R->(∃j:Nat,1<=j/\j<=k/\R=t+(j:Int)*EA)/\p R=true/\t+EA<=R/\R<=t+(k:Int)*EA
 |0,t,R,h=>by cases h
 |k+1,t,R,h=>by
  unfold OE at h
  have hk:((k+1:Nat):Int)*EA=(k:Int)*EA+EA:=by rw[Int.natCast_add,Int.add_mul];simp
  have kL:0<=(k:Int)*EA:=Int.mul_nonneg O O
  split at h
  ·rename_i hp
   cases h
   exact⟨⟨1,Nat.le_refl 1,O,by simp⟩,hp,O,O⟩
  ·obtain⟨⟨j,D,h2,h3⟩,h4,h5,h6⟩:=zY hi h
   refine⟨⟨j+1,O,O,?_⟩,h4,O,O⟩
   rw[h3,Int.natCast_add,Int.add_mul];simp;omega
def pH (r:RR) (t:Int):Bool:=((r.bh.length:Int)==0)||r.bh.contains (t%24)
def pM (r:RR) (t:Int):Bool:=(((r.bh.length:Int)==0)||r.bh.contains (t/60%24))&&(((r.bi.length:Int)==0)||r.bi.contains (t%60))
def pS (r:RR) (t:Int):Bool:=((((r.bh.length:Int)==0)||r.bh.contains (t/3600%24))&&(((r.bi.length:Int)==0)||r.bi.contains (t/60%60)))&&(((r.bs.length:Int)==0)||r.bs.contains (t%60))
theorem C3 (r:RR) (t:Int):pH r (t+24)=pH r t:=by unfold pH;rw[show(t+24)%24=t%24 by omega]
theorem D3 (r:RR) (t:Int):pM r (t+1440)=pM r t:=by unfold pM;rw[show(t+1440)/60%24=t/60%24 by omega,show(t+1440)%60=t%60 by omega]
theorem E3 (r:RR) (t:Int):pS r (t+86400)=pS r t:=by unfold pS;rw[show(t+86400)/3600%24=t/3600%24 by omega,show(t+86400)/60%60=t/60%60 by omega,show(t+86400)%60=t%60 by omega]
def RF (p:Int->Bool) (EA:Int) (K:Nat) (t:Int):Prop:=∀n:Nat,(OE p EA K (t+(n:Int)*EA)).isSome=true
theorem RF.shift {p:Int->Bool} {EA tA:Int} {K:Nat} (hp:∀t,p (t+tA)=p t) {t:Int} (h:RF p EA K (t+tA)):RF p EA K t:=λn=>by
 have:=h n
 rw[show t+tA+(n:Int)*EA=t+(n:Int)*EA+tA by omega,Fm hp]at this
 simpa using this
theorem RF.Hv {p:Int->Bool} {EA tA:Int} {K:Nat} (hp:∀t,p (t+tA)=p t):∀(m:Nat) {t:Int},RF p EA K (t+(m:Int)*tA)->RF p EA K t
 |0,t,h=>by simpa using h
 |m+1,t,h=>by
  refine RF.Hv hp m (RF.shift hp ?_)
  have e:t+(m:Int)*tA+tA=t+((m+1:Nat):Int)*tA:=by rw[Int.natCast_add,Int.add_mul];simp;omega
  rw[e];exact h
theorem RF.next {p:Int->Bool} {EA tA:Int} {K:Nat} (hU:0<tA) (hp:∀t,p (t+tA)=p t) {t:Int} (ht:0<=t) (h:RF p EA K t) (j:Nat) (h0:0<=t+(j:Int)*EA):RF p EA K ((t+(j:Int)*EA)%tA):=by
 have D:RF p EA K (t+(j:Int)*EA):=λn=>by
  have:=h (j+n)
  rwa [Int.natCast_add,Int.add_mul,<-Int.add_assoc]at this
 have e:t+(j:Int)*EA=(t+(j:Int)*EA)%tA+(((t+(j:Int)*EA)/tA).toNat:Int)*tA:=by
  have h2:=Int.emod_add_mul_ediv (t+(j:Int)*EA) tA
  have h3:0<=(t+(j:Int)*EA)/tA:=Int.ediv_nonneg h0 O
  rw[Int.toNat_of_nonneg h3,Int.mul_comm ((t+(j:Int)*EA)/tA) tA];omega
 rw[e]at D
 exact RF.Hv hp _ D
def cK (r:RR) (c:CR):Int:=if rF r c then c.hh+(23-c.hh)/r.EA*r.EA else c.hh
def UI (r:RR) (h:Int):List Int:=YE (AF (h*3600) r.bi r.bs)
def dK (r:RR) (c:CR):Option CR:=match OE (pH r) r.EA 24 (cK r c)with
 |none=>none
 |some R=>fixC {c with hh:=R%24,ts:=UI r (R%24)} (c.d+R/24)
def eK (r:RR) (c:CR):Int:=if rF r c then c.mi+(1439- (c.hh*60+c.mi))/r.EA*r.EA else c.mi
def UH (r:RR) (h m:Int):List Int:=YE (oD (h*3600+m*60) r.bs)
def fK (r:RR) (c:CR):Option CR:=match OE (pM r) r.EA 1440 (60*c.hh+eK r c)with
 |none=>none
 |some R=>fixC {c with hh:=R/60%24,mi:=R%60,ts:=UH r (R/60%24) (R%60)} (c.d+R/1440)
def gK (r:RR) (c:CR):Int:=if rF r c then c.s+(86399- (c.hh*3600+c.mi*60+c.s))/r.EA*r.EA else c.s
def iK (r:RR) (c:CR):Option CR:=match OE (pS r) r.EA 86400 (3600*c.hh+60*c.mi+gK r c)with
 |none=>none
 |some R=>fixC {c with hh:=R/3600%24,mi:=R/60%60,s:=R%60,ts:=[(R/3600%24)*3600+(R/60%60)*60+(R%60)]} (c.d+R/86400)
theorem AZ (dt XA:Int):∀(l E:List Int) (c:Int),(zE dt XA l E c).1.length<=E.length+l.length
 |[],E,c=>by simp[zE]
 |t::l,E,c=>by
  unfold zE
  split
  ·first|(simp;done)|(simp;omega)
  ·split
   ·have:=AZ dt XA l E c;simp;omega
   ·split
    ·first|(simp;done)|(simp;omega)
    ·have:=AZ dt XA l (E++[t]) (if c=0 then 0 else c-1);simp at this⊢;omega
theorem iN (dt XA:Int):∀(l E:List Int) (c:Int),0<=c/\c<=1000->0<=(zE dt XA l E c).2.1/\(zE dt XA l E c).2.1<=1000
 |[],E,c,h=>h
 |t::l,E,c,h=>by
  unfold zE
  split
  ·exact h
  ·split
   ·exact iN dt XA l E c h
   ·split
    ·exact⟨Int.le_refl 0,by show(0:Int)<=1000;omega⟩
    ·exact iN dt XA l _ _ (by split<;>omega)
theorem Ld (x:IT):∀ds:List (Int×Bool),(yG x ds).length<=ds.length*x.ts.length
 |[]=>by simp[yG]
 |p::ds=>by
  have:=Ld x ds
  rw[Cm,List.length_append,List.length_cons,Nat.succ_mul]
  have h2:(if p.2=true then vJ x p.1 else[]).length<=x.ts.length:=by split<;>simp[vJ]
  omega
def jN (c:CR):Nat:=(10000-c.y).toNat
def NL (c:CR):Nat:=(120001- (12*c.y+c.m)).toNat
def SG (c:CR):Nat:=(4000000-NA c.y c.m c.d).toNat
def kN (c:CR):Nat:=(24*4000000- (24*NA c.y c.m c.d+c.hh)).toNat
def lN (c:CR):Nat:=(1440*4000000- (1440*NA c.y c.m c.d+(60*c.hh+c.mi))).toNat
def mN (c:CR):Nat:=(86400*4000000- (86400*NA c.y c.m c.d+(3600*c.hh+60*c.mi+c.s))).toNat
end En
section
open Ieee
theorem lY {neg:Bool} {m:Nat} {p q:Int} (h:p=q):Datum.number neg m p=Datum.number neg m q:=by rw[h]
theorem U0 {neg:Bool} {m n:Nat} {p q:Int} (h':m=n) (h:p=q):Datum.number neg m p=Datum.number neg n q:=by rw[h,h']
theorem Tl:double.signWeight=9223372036854775808:=by decide
theorem Ul:double.binade=4503599627370496:=by decide
theorem Vl:double.infRung=9218868437227405312:=by decide
theorem Wl:double.leastPlace= -1074:=by decide
theorem X0 (neg:Bool) (r:Nat) (hr:r<9223372036854775808):double.word neg r/9223372036854775808%2=(if neg then 1 else 0)/\double.word neg r%9223372036854775808=r:=by
 unfold Format.word;rw[Tl];cases neg
 ·simp only[Bool.false_eq_true,if_false];omega
 ·simp only[if_true];omega
theorem Xl (neg:Bool) (e k:Nat) (D:4503599627370496<=k) (h2:k<9007199254740992) (he:e<=2000):double.read (double.word neg (e*4503599627370496+k))= .number neg k ((e:Int)-1074):=by
 have hr:e*4503599627370496+k<9218868437227405312:=O
 have hw:=X0 neg (e*4503599627370496+k) O
 have h3:(e*4503599627370496+k)/4503599627370496=e+1:=O
 have h4:4503599627370496+(e*4503599627370496+k)%4503599627370496=k:=O
 have h5:¬(e*4503599627370496+k<4503599627370496):=O
 have h6:((if neg=true then 1 else 0:Nat)==1)=neg:=by cases neg<;>rfl
 unfold Format.read
 simp only[Tl,Ul,Vl,Wl,hw.1,hw.2]
 rw[if_neg h5,if_pos hr,h3,h4,h6]
 exact lY O
theorem Yl (neg:Bool) (AW:Nat) (place:Int) (h0:AW≠0) (kept e:Nat) (hl:(e:Int)-1074=place+AW.log2-52) (he:e<=1900)
  (hk:Toward.even.cut neg (AW<<<(place- ((e:Int)-1074)).toNat) (((e:Int)-1074)-place).toNat=kept) (D:4503599627370496<=kept) (h2:kept<=9007199254740992):
  ∃m p,double.read (double.nearest neg AW place)= .number neg m p/\((kept<9007199254740992/\m=kept/\p=(e:Int)-1074)\/(9007199254740992<=kept/\kept=2*m/\p=(e:Int)-1073)):=by
 have hf:double.fractionBits=52:=by decide
 have hm:max (place+(AW.log2:Int)- ((52:Nat):Int)) (-1074)=(e:Int)-1074:=by
  clear hk;omega
 have h3:((e:Int)-1074- -1074).toNat=e:=by clear hk hm;omega
 have h4:e*4503599627370496+kept<=9218868437227405312:=by clear hk hm;omega
 unfold Format.nearest
 rw[if_neg h0]
 simp only[Ul,Vl,Wl,hf]
 rw[hm,hk,h3,Nat.min_eq_left h4]
 clear hk hm h3 hl
 by_cases hc:kept<9007199254740992
 ·exact⟨_,_,Xl neg e kept D hc O, .inl ⟨hc,rfl,rfl⟩⟩
 ·obtain⟨m,hm⟩:∃m:Nat,kept=2*m:=⟨kept/2,O⟩
  refine⟨m,(e:Int)-1073,?_, .inr ⟨O,hm,rfl⟩⟩
  have:=Xl neg (e+1) m O O O
  rw[show(e+1)*4503599627370496+m=e*4503599627370496+kept by omega]at this
  rw[this];exact lY O
theorem Y0 (BW:Toward) (neg:Bool) (n:Nat):BW.cut neg n 0=n:=by
 unfold Toward.cut
 simp only[Nat.zero_min,Nat.shiftLeft_zero,Nat.div_one,Nat.mod_one]
 cases BW<;>cases neg<;>simp
theorem mY {n k:Nat} (D:2^k<=n) (h2:n<2^(k+1)):n.log2=k:=by
 have h0:n≠0:=by have:=Nat.two_pow_pos k;omega
 have h3:=Nat.log2_self_le h0
 have h4:= @Nat.lt_log2_self n
 rcases Nat.lt_trichotomy n.log2 k with h|h|h
 ·have:=Nat.pow_le_pow_right (n:=2) O (show n.log2+1<=k by omega);omega
 ·exact h
 ·have:=Nat.pow_le_pow_right (n:=2) O (show k+1<=n.log2 by omega);omega
theorem nY (neg:Bool) (a:Nat) (h0:a≠0) (h:a<9007199254740992):a.log2<=52/\double.read (double.nearest neg a 0)= .number neg (a*2^(52-a.log2)) ((a.log2:Int)-52)/\4503599627370496<=a*2^(52-a.log2)/\a*2^(52-a.log2)<9007199254740992:=by
 have h3:=Nat.log2_self_le h0
 have h4:= @Nat.lt_log2_self a
 have hl:a.log2<=52:=by
  rcases Nat.lt_or_ge 52 a.log2 with h'|h'
  ·have:=Nat.pow_le_pow_right (n:=2) O (show 53<=a.log2 by omega);omega
  ·exact h'
 have e1:2^a.log2*2^(52-a.log2)=4503599627370496:=by rw[<-Nat.pow_add,show a.log2+(52-a.log2)=52 by omega]
 have e2:2^(a.log2+1)*2^(52-a.log2)=9007199254740992:=by rw[<-Nat.pow_add,show a.log2+1+(52-a.log2)=53 by omega]
 have g1:4503599627370496<=a*2^(52-a.log2):=by rw[<-e1];exact Nat.mul_le_mul_right _ h3
 have g2:a*2^(52-a.log2)<9007199254740992:=by rw[<-e2];exact Nat.mul_lt_mul_of_pos_right h4 (Nat.two_pow_pos _)
 refine⟨hl,?_,g1,g2⟩
 clear e1 e2 h3 h4
 obtain⟨m,p,h5,h6⟩:=Yl neg a 0 h0 (a*2^(52-a.log2)) (1022+a.log2) (by clear g1 g2;omega) (by clear g1 g2;omega) (by
  rw[show(0- (((1022+a.log2:Nat):Int)-1074)).toNat=52-a.log2 by clear g1 g2;omega,show((((1022+a.log2:Nat):Int)-1074)-0).toNat=0 by clear g1 g2;omega,Y0,Nat.shiftLeft_eq]) g1 (Nat.le_of_lt g2)
 rw[h5]
 rcases h6 with⟨_,h6,h7⟩|⟨h6,_⟩
 ·exact U0 h6 (by clear g1 g2;omega)
 ·exact absurd g2 (Nat.not_lt_of_le h6)
theorem vc (n drop:Nat):n/(1<<<min drop (n.log2+2))=n/2^drop/\n%(1<<<min drop (n.log2+2))=n%2^drop:=by
 rw[Nat.shiftLeft_eq,Nat.one_mul]
 rcases Nat.le_total drop (n.log2+2)with h|h
 ·rw[Nat.min_eq_left h];exact⟨rfl,rfl⟩
 ·rw[Nat.min_eq_right h]
  have D:n<2^(n.log2+2):=Nat.lt_of_lt_of_le Nat.lt_log2_self (Nat.pow_le_pow_right O O)
  have h2:n<2^drop:=Nat.lt_of_lt_of_le D (Nat.pow_le_pow_right O h)
  exact⟨by rw[Nat.div_eq_of_lt D,Nat.div_eq_of_lt h2],by rw[Nat.mod_eq_of_lt D,Nat.mod_eq_of_lt h2]⟩
theorem Zl (neg:Bool) (n drop:Nat):Toward.down.cut neg n drop=n/2^drop+(neg&&n%2^drop !=0).toNat:=by
 unfold Toward.cut;simp only[vc]
theorem al (neg:Bool) (n drop:Nat):Toward.zero.cut neg n drop=n/2^drop:=by
 unfold Toward.cut;simp only[vc];rfl
theorem Z0 (neg:Bool) (n drop:Nat):n/2^drop<=Toward.even.cut neg n drop/\Toward.even.cut neg n drop<=n/2^drop+1/\(n%2^drop=0->Toward.even.cut neg n drop=n/2^drop):=by
 unfold Toward.cut
 have hp:=Nat.two_pow_pos (min drop (n.log2+2))
 simp only[vc]
 generalize Z:(decide (1<<<min drop (n.log2+2)<2*(n%2^drop))||(1<<<min drop (n.log2+2)==2*(n%2^drop)&&n/2^drop%2==1))=bb
 refine⟨Nat.le_add_right _ _,Nat.add_le_add_left (by cases bb<;>decide) _,λh=> ?_⟩
 rw[h]at Z
 have:bb=false:=by
  rw[<-Z,Nat.shiftLeft_eq,Nat.one_mul]
  simp only[Nat.mul_zero,Nat.not_lt_zero,decide_false,Bool.false_or,Bool.and_eq_false_imp,beq_iff_eq]
  intro h;omega
 rw[this];rfl
theorem b0 {sB B s d DC q u st r:Nat} (hB:0<B/\B<=1024) (hs:17179869184<=2^s) (hd:(d=2/\2^s=2*DC)\/(d=3/\2^s=4*DC)) (hq:q=sB/B) (hr:r=sB%B) (hu:u=sB*2^s/B) (IC:st=(sB*2^s%B !=0).toNat) {kept:Nat}
  (hk:(2*u+st)/2^d<=kept/\kept<=(2*u+st)/2^d+1/\((2*u+st)%2^d=0->kept=(2*u+st)/2^d)):(r=0->kept=q*DC)/\(r≠0->q*DC<kept/\kept<(q+1)*DC):=by
 have hA:sB=B*q+r:=by rw[hq,hr];exact(Nat.div_add_mod sB B).symm
 have hrB:r<B:=by rw[hr];exact Nat.mod_lt _ hB.1
 generalize hS:2^s=S at*
 have e1:sB*S=B*(q*S)+r*S:=by rw[hA,Nat.add_mul,Nat.mul_assoc]
 have e2:u=q*S+r*S/B:=by rw[hu,e1,Nat.mul_add_div hB.1]
 have e3:sB*S%B=r*S%B:=by rw[e1,Nat.mul_add_mod]
 have r0:st<=1:=by rw[IC];cases (sB*S%B !=0)<;>decide
 rw[Nat.add_mul,Nat.one_mul]
 generalize cl:q*DC=qD
 have e4:(d=2/\q*S=2*qD)\/(d=3/\q*S=4*qD):=by
  rcases hd with⟨h,h'⟩|⟨h,h'⟩
  ·exact .inl ⟨h,by rw[h',<-cl,Nat.mul_left_comm]⟩
  ·exact .inr ⟨h,by rw[h',<-cl,Nat.mul_left_comm]⟩
 generalize hv:r*S/B=v at*
 generalize hqS:q*S=qS at*
 constructor
 ·intro h0
  have v0:v=0:=by rw[<-hv,h0,Nat.zero_mul,Nat.zero_div]
  have s0:st=0:=by rw[IC,e3,h0,Nat.zero_mul,Nat.zero_mod];rfl
  rcases e4 with⟨rfl,h⟩|⟨rfl,h⟩
  ·have:=hk.2.2 (by rw[e2,s0,v0,h,show(2:Nat)^2=4 by rfl];omega)
   rw[this,e2,s0,v0,h,show(2:Nat)^2=4 by rfl];omega
  ·have:=hk.2.2 (by rw[e2,s0,v0,h,show(2:Nat)^3=8 by rfl];omega)
   rw[this,e2,s0,v0,h,show(2:Nat)^3=8 by rfl];omega
 ·intro h0
  have v1:16777216<=v:=by
   rw[<-hv,Nat.le_div_iff_mul_le hB.1]
   have D:1*S<=r*S:=Nat.mul_le_mul_right _ O
   omega
  have v2:v+16777216<=S:=by
   have D:v*B<=r*S:=by rw[<-hv];exact Nat.div_mul_le_self _ _
   have h2:r*S<=(B-1)*S:=Nat.mul_le_mul_right _ O
   have h3:(B-1)*S+S=B*S:=by
    have:(B-1+1)*S=B*S:=by rw[Nat.sub_add_cancel hB.1]
    rw[<-this,Nat.add_mul,Nat.one_mul]
   have h4:(v+16777216)*B<=S*B:=by
    rw[Nat.add_mul,Nat.mul_comm S B]
    omega
   exact Nat.le_of_mul_le_mul_right h4 hB.1
  rcases e4 with⟨rfl,h⟩|⟨rfl,h⟩<;>rcases hd with⟨hd,h'⟩|⟨hd,h'⟩<;>first|exact absurd hd (by decide)|skip
  ·rw[e2,h,show(2:Nat)^2=4 by rfl]at hk;omega
  ·rw[e2,h,show(2:Nat)^3=8 by rfl]at hk;omega
theorem u0 (neg:Bool) (sB B:Nat) (hA:0<sB/\sB<1048576) (hB:0<B/\B<=1024):∃x,double.div (double.nearest neg sB 0) (double.nearest false B 0)=some x/\∃m t:Nat,double.read x= .number neg m (-(t:Int))/\0<t/\(sB%B=0->m=sB/B*2^t)/\(sB%B≠0->sB/B*2^t<m/\m<(sB/B+1)*2^t):=by
 obtain⟨la,rA,a1,a2⟩:=nY neg sB O O
 obtain⟨lb,rB,b1,b2⟩:=nY false B O O
 have la2:sB.log2<=19:=by
  rcases Nat.lt_or_ge 19 sB.log2 with h|h
  ·have D:=Nat.log2_self_le (show sB≠0 by omega)
   have:=Nat.pow_le_pow_right (n:=2) O (show 20<=sB.log2 by omega);omega
  ·exact h
 have lb2:B.log2<=10:=by
  rcases Nat.lt_or_ge 10 B.log2 with h|h
  ·have D:=Nat.log2_self_le (show B≠0 by omega)
   have:=Nat.pow_le_pow_right (n:=2) O (show 11<=B.log2 by omega);omega
  ·exact h
 have lm:(sB*2^(52-sB.log2)).log2=52:=mY a1 a2
 have ln:(B*2^(52-B.log2)).log2=52:=mY b1 b2
 have HF:B*2^(52-B.log2)≠0:=O
 have ff:double.fractionBits+2=54:=by decide
 unfold Format.div
 rw[rA,rB,ff]
 simp only[Datum.quotient,Option.map_some]
 rw[if_neg HF,lm,ln]
 simp only[Option.map_some,Option.some.injEq,exists_eq_left',Format.write,Bool.xor_false]
 generalize oT:sB.log2=L at*
 generalize oY:B.log2=K at*
 have hX:(sB*2^(52-L))<<<(54+52-52)=(sB*2^(54+K-L))*2^(52-K):=by
  rw[Nat.shiftLeft_eq,Nat.mul_assoc,Nat.mul_assoc,<-Nat.pow_add,<-Nat.pow_add]
  congr 2;omega
 have pT:(sB*2^(52-L))<<<(54+52-52)/(B*2^(52-K))=sB*2^(54+K-L)/B:=by
  rw[hX,Nat.mul_div_mul_right _ _ (Nat.two_pow_pos _)]
 have qY:((sB*2^(52-L))<<<(54+52-52)%(B*2^(52-K)) !=0)=(sB*2^(54+K-L)%B !=0):=by
  rw[hX,Nat.mul_mod_mul_right]
  have hp:=Nat.two_pow_pos (52-K)
  generalize sB*2^(54+K-L)%B=z
  cases z with
  |zero=>simp
  |succ z=>
   have:(z+1)*2^(52-K)≠0:=Nat.mul_ne_zero O O
   simp[this]
 have WK:9007199254740992<=sB*2^(54+K-L)/B:=by
  rw[<-pT,Nat.le_div_iff_mul_le O,Nat.shiftLeft_eq,show 54+52-52=54 by rfl,show(2:Nat)^54=18014398509481984 by rfl]
  clear hX pT qY;omega
 have yD:sB*2^(54+K-L)/B<36028797018963968:=by
  rw[<-pT,Nat.div_lt_iff_lt_mul O,Nat.shiftLeft_eq,show 54+52-52=54 by rfl,show(2:Nat)^54=18014398509481984 by rfl]
  clear hX pT qY;omega
 rw[pT,qY]
 clear hX pT qY rA rB a1 a2 b1 b2 lm ln HF
 generalize hu:sB*2^(54+K-L)/B=u at*
 generalize IC:(sB*2^(54+K-L)%B !=0).toNat=st at*
 have r0:st<=1:=by rw[<-IC];cases (sB*2^(54+K-L)%B !=0)<;>decide
 have pP:17179869184<=2^(54+K-L):=by
  have:=Nat.pow_le_pow_right (n:=2) O (show 34<=54+K-L by omega);exact this
 have hd:∃d,(d=2\/d=3)/\(2*u+st).log2=52+d/\4503599627370496*2^d<=2*u+st/\2*u+st<9007199254740992*2^d:=by
  rcases Nat.lt_or_ge (2*u+st) 36028797018963968 with h|h
  ·exact⟨2, .inl rfl,mY (by show(18014398509481984:Nat)<=_;omega) (by show _<(36028797018963968:Nat);exact h),by show(4503599627370496*4:Nat)<=_;omega,by show _<(9007199254740992*4:Nat);omega⟩
  ·exact⟨3, .inr rfl,mY (by show(36028797018963968:Nat)<=_;exact h) (by show _<(72057594037927936:Nat);omega),by show(4503599627370496*8:Nat)<=_;omega,by show _<(9007199254740992*8:Nat);omega⟩
 obtain⟨d,hd,x0,qH,IL⟩:=hd
 have hk:=Z0 neg (2*u+st) d
 generalize qP:Toward.even.cut neg (2*u+st) d=kept at*
 have rP:4503599627370496<=kept:=Nat.le_trans ((Nat.le_div_iff_mul_le (Nat.two_pow_pos _)).2 qH) hk.1
 have PG:kept<=9007199254740992:=by
  have:(2*u+st)/2^d<9007199254740992:=(Nat.div_lt_iff_lt_mul (Nat.two_pow_pos _)).2 IL
  omega
 have IG:((L:Int)-52)- ((K:Int)-52)- ((54+52-52:Nat):Int)-1=(L:Int)-K-55:=O
 rw[IG]
 obtain⟨m,p,h5,h6⟩:=Yl neg (2*u+st) ((L:Int)-K-55) O kept (1019+L-K+d) (by rw[x0];clear hk qP qH IL rP PG hu IC pP;omega) (by clear hk qP qH IL rP PG hu IC pP;omega) (by
  rw[show((L:Int)-K-55- (((1019+L-K+d:Nat):Int)-1074)).toNat=0 by clear hk qP qH IL rP PG hu IC pP;omega,show((((1019+L-K+d:Nat):Int)-1074)- ((L:Int)-K-55)).toNat=d by clear hk qP qH IL rP PG hu IC pP;omega,Nat.shiftLeft_zero,qP]) rP PG
 have rY:(d=2/\2^(54+K-L)=2*2^(55+K-L-d))\/(d=3/\2^(54+K-L)=4*2^(55+K-L-d)):=by
  rcases hd with rfl|rfl
  ·exact .inl ⟨rfl,by rw[show 54+K-L=(55+K-L-2)+1 by clear hk qP qH IL rP PG hu IC pP h6;omega,Nat.pow_succ,Nat.mul_comm]⟩
  ·exact .inr ⟨rfl,by rw[show 54+K-L=(55+K-L-3)+2 by clear hk qP qH IL rP PG hu IC pP h6;omega,Nat.pow_succ,Nat.pow_succ,Nat.mul_comm,Nat.mul_comm _ 2,<-Nat.mul_assoc]⟩
 have aN:=b0 (sB:=sB) hB pP rY rfl rfl hu.symm IC.symm hk
 rw[h5]
 clear hk qP qH IL rP PG hu IC pP
 rcases h6 with⟨_,rfl,rfl⟩|⟨_,h7,rfl⟩
 ·exact⟨m,55+K-L-d,lY (by clear aN;omega),by clear aN;omega,aN.1,aN.2⟩
 ·have A1:2^(55+K-L-d)=2*2^(54+K-L-d):=by rw[show 55+K-L-d=(54+K-L-d)+1 by clear aN rY;omega,Nat.pow_succ,Nat.mul_comm]
  rw[A1,h7]at aN
  refine⟨m,54+K-L-d,lY (by clear aN rY;omega),by clear aN rY;omega,λh=> ?_,λh=> ?_⟩
  ·have:=aN.1 h;rw[Nat.mul_left_comm]at this;omega
  ·have:=aN.2 h;rw[Nat.mul_left_comm,Nat.mul_left_comm (sB/B+1)]at this;omega
theorem sY (neg:Bool):double.read (double.nearest neg 0 0)= .number neg 0 (-1074):=by
 cases neg<;>decide
theorem wc (neg:Bool) (n:Nat) (h:n<1048577):(double.read (double.write (.number neg n 0))).toInt .zero=some (if neg then-(n:Int)else n):=by
 show(double.read (double.nearest neg n 0)).toInt .zero=_
 by_cases h0:n=0
 ·subst h0
  rw[sY]
  simp only[Datum.toInt,Datum.integral,al,Nat.zero_shiftLeft,Nat.zero_div,signed]
 ·obtain⟨D,h2,h3,h4⟩:=nY neg n h0 O
  rw[h2]
  simp only[Datum.toInt,Datum.integral,al]
  rw[show((n.log2:Int)-52).toNat=0 by omega,show(-((n.log2:Int)-52)).toNat=52-n.log2 by omega,Nat.shiftLeft_zero,Nat.mul_div_cancel _ (Nat.two_pow_pos _)]
  simp only[signed,Nat.shiftLeft_zero]
theorem B1 (a:Int) (b:Nat) (ha: -1048576<a/\a<1048576) (Z:0<b/\b<=1024):∃x,double.div (Go.FloatKind.f64.nearest a) (Go.FloatKind.f64.nearest b)=some x/\(∃neg m p,double.read x= .number neg m p)/\(double.read (double.write ((double.read x).integral .down))).toInt .zero=some (a/b):=by
 have e1:Go.FloatKind.f64.nearest a=double.nearest (decide (a<0)) a.natAbs 0:=rfl
 have e2:Go.FloatKind.f64.nearest (b:Int)=double.nearest false b 0:=by
  show double.nearest (decide ((b:Int)<0)) (b:Int).natAbs 0=_
  rw[Int.natAbs_natCast,decide_eq_false O]
 rw[e1,e2]
 by_cases h0:a=0
 ·subst h0
  refine⟨double.nearest false 0 0,?_,⟨false,0,-1074,sY false⟩,?_⟩
  ·obtain⟨lb,rB,b1,b2⟩:=nY false b O O
   unfold Format.div
   rw[show double.nearest (decide ((0:Int)<0)) (0:Int).natAbs 0=double.nearest false 0 0 from rfl,sY,rB]
   simp only[Datum.quotient]
   rw[if_neg O]
   simp only[Option.map_some,Nat.zero_shiftLeft,Nat.zero_div,Nat.zero_mod,bne_self_eq_false,Bool.toNat_false,Nat.mul_zero,Nat.add_zero,Option.some.injEq,Format.write,Format.nearest,Bool.xor_false,if_true]
  ·rw[sY]
   simp only[Datum.integral,Nat.zero_shiftLeft,Zl,Nat.zero_div,Nat.zero_mod,bne_self_eq_false,Bool.and_false,Bool.toNat_false,Nat.add_zero]
   rw[wc false 0 O]
   simp
 ·obtain⟨x,D,m,t,h2,h3,h4,h5⟩:=u0 (decide (a<0)) a.natAbs b O Z
  refine⟨x,D,⟨_,_,_,h2⟩,?_⟩
  rw[h2]
  simp only[Datum.integral,Zl]
  rw[show(-(t:Int)).toNat=0 by omega,show(- -(t:Int)).toNat=t by omega,Nat.shiftLeft_zero]
  have hp:=Nat.two_pow_pos t
  have hq:a.natAbs/b<=a.natAbs:=Nat.div_le_self _ _
  by_cases hr:a.natAbs%b=0
  ·have hm:=h4 hr
   rw[hm,Nat.mul_div_cancel _ hp,Nat.mul_mod_left]
   simp only[bne_self_eq_false,Bool.and_false,Bool.toNat_false,Nat.add_zero]
   rw[wc _ _ O]
   obtain⟨k,hk⟩:∃k,a.natAbs=b*k:=⟨_,(Nat.mul_div_cancel' (Nat.dvd_of_mod_eq_zero hr)).symm⟩
   rw[hk,Nat.mul_div_cancel_left _ Z.1]
   congr 1
   by_cases hn:a<0
   ·rw[if_pos (decide_eq_true hn)]
    have:a=(b:Int)* -(k:Int):=by have:=congrArg (Nat.cast (R:=Int)) hk;rw[Int.natCast_mul]at this;rw[Int.mul_neg];omega
    rw[this,Int.mul_ediv_cancel_left _ O]
   ·rw[if_neg (by simpa using hn)]
    have:a=(b:Int)*(k:Int):=by have:=congrArg (Nat.cast (R:=Int)) hk;rw[Int.natCast_mul]at this;omega
    rw[this,Int.mul_ediv_cancel_left _ O]
  ·obtain⟨g1,g2⟩:=h5 hr
   generalize hQ:a.natAbs/b=Q at*
   have d1:m/2^t=Q:=by
    refine Nat.div_eq_of_lt_le ?_ ?_
    ·exact Nat.le_of_lt g1
    ·exact g2
   have d2:m%2^t≠0:=by
    intro e
    have:=Nat.div_add_mod m (2^t)
    rw[d1,e,Nat.mul_comm]at this
    omega
   rw[d1]
   have d3:(m%2^t !=0)=true:=by simpa using d2
   rw[d3,Bool.and_true]
   have qT:b*Q+a.natAbs%b=a.natAbs:=by rw[<-hQ];exact Nat.div_add_mod _ _
   have fA:a.natAbs%b<b:=Nat.mod_lt _ Z.1
   rw[wc _ _ (by cases decide (a<0)<;>simp<;>omega)]
   congr 1
   by_cases hn:a<0
   ·rw[if_pos (decide_eq_true hn),decide_eq_true hn]
    simp only[Bool.toNat_true]
    have h6:a=(b:Int)*(-((Q+1:Nat):Int))+((b-a.natAbs%b:Nat):Int):=by
     have:=congrArg (Nat.cast (R:=Int)) qT
     rw[Int.natCast_add,Int.natCast_mul]at this
     rw[Int.mul_neg,Int.natCast_add,Int.mul_add]
     omega
    rw[h6,Int.mul_add_ediv_left _ _ O,Int.ediv_eq_zero_of_lt O O,Int.add_zero]
   ·rw[if_neg (by simpa using hn),decide_eq_false hn]
    simp only[Bool.toNat_false,Nat.add_zero]
    have h6:a=(b:Int)*(Q:Int)+((a.natAbs%b:Nat):Int):=by
     have:=congrArg (Nat.cast (R:=Int)) qT
     rw[Int.natCast_add,Int.natCast_mul]at this
     omega
    rw[h6,Int.mul_add_ediv_left _ _ O,Int.ediv_eq_zero_of_lt O O,Int.add_zero]
end
section
open Go.Lib
abbrev yA:=List UInt8
theorem wR (p q:yA) (r:List yA) (c:UInt8):join (p::q::r) [c]=p++c::join (q::r) [c]:=by
 rw[join_cons,join_cons];simp[joinTail]
def KQ (c:UInt8) (s:yA):Int:=if c∈s then(s.idxOf c:Int)else-1
theorem Xq {c:UInt8} {s:yA} (h:c∉s):KQ c s= -1:=if_neg h
theorem Yq {c:UInt8}:∀{p r:yA},c∉p->(p++c::r).idxOf c=p.length
 |[],r,_=>by simp
 |b::p,r,h=>by
  simp only[List.mem_cons,not_or]at h
  have:=Yq (r:=r) h.2
  rw[List.cons_append,List.idxOf_cons,this,show(b==c)=false by simpa using Ne.symm h.1]
  rfl
theorem Zq {c:UInt8} {p r:yA} (h:c∉p):KQ c (p++c::r)=p.length:=by
 unfold KQ;rw[if_pos (by simp),Yq h]
def CF (b:UInt8):Prop:=48<=b.toNat/\b.toNat<=57
theorem aq {d:Nat} (h:d<10):(UInt8.ofNat (48+d)).toNat=48+d:=by
 show(48+d)%256=48+d;omega
theorem cq {d:Nat} (h:d<10):CF (UInt8.ofNat (48+d)):=by
 unfold CF;rw[aq h];omega
theorem xZ (u:Nat):∀b∈decDigits u,CF b:=by
 induction u using Nat.strongRecOn with
 |_ u ih=>
  intro b Z
  rw[decDigits]at Z
  split at Z
  ·rename_i h
   simp only[List.mem_singleton]at Z;subst Z;exact cq h
  ·rw[List.mem_append,List.mem_singleton]at Z
   rcases Z with Z|Z
   ·exact ih (u/10) O b Z
   ·subst Z;exact cq O
theorem TU (u:Nat):decDigits u≠[]:=by
 rw[decDigits];split<;>simp
theorem dq {d:Nat} (h:d<10):digitVal (UInt8.ofNat (48+d))=some d:=by
 unfold digitVal;rw[aq h,if_pos O];congr 1;omega
theorem iq:∀(l:yA) (acc n:Nat) (r:yA),decFrom acc l=some n->decFrom acc (l++r)=decFrom n r
 |[],acc,n,r,h=>by simp only[decFrom,Option.some.injEq]at h;subst h;rfl
 |b::l,acc,n,r,h=>by
  simp only[decFrom,List.cons_append]at h⊢
  cases hd:digitVal b with
  |none=>simp[hd]at h
  |some d=>simp only[hd]at h⊢;exact iq l _ n r h
theorem jq (u:Nat):decFrom 0 (decDigits u)=some u:=by
 induction u using Nat.strongRecOn with
 |_ u ih=>
  rw[decDigits]
  split
  ·rename_i h
   unfold decFrom;rw[dq h];simp[decFrom]
  ·rename_i h
   rw[iq _ _ _ _ (ih (u/10) O)]
   simp only[decFrom,dq (Nat.mod_lt u (show 0<10 by omega)),Option.some.injEq]
   omega
theorem Cf (u:Nat):decNat (decDigits u)=some u:=by
 unfold decNat
 rw[if_neg,jq]
 have:=TU u
 cases h:decDigits u
 ·exact absurd h this
 ·simp
theorem A9 {u:Nat}:∃b r,decDigits u=b::r/\CF b:=by
 cases h:decDigits u with
 |nil=>exact absurd h (TU u)
 |cons b r=>exact⟨b,r,rfl,xZ u b (by rw[h];simp)⟩
theorem kq {b c:UInt8} (h:CF b) (hc:c.toNat<48\/57<c.toNat):b≠c:=by
 intro e;subst e;unfold CF at h;omega
theorem B9 (u:Nat):atoi (decDigits u)=some (u:Int):=by
 have hn:=Cf u
 obtain⟨b,r,e,Z⟩:=A9 (u:=u)
 rw[e]at hn⊢
 have e1:(b==45)=false:=by simpa using kq Z (c:=45) (by decide)
 have e2:(b==43)=false:=by simpa using kq Z (c:=43) (by decide)
 unfold atoi;dsimp only
 rw[e1,e2,if_neg (by decide),if_neg (by decide),hn];rfl
theorem C9 (u:Nat):atoi (43::decDigits u)=some (u:Int):=by
 unfold atoi;dsimp only
 rw[if_neg (by decide),if_pos (by decide),Cf];rfl
theorem yZ (n:Int):atoi (itoa n)=some n:=by
 unfold itoa
 split
 ·unfold atoi;dsimp only
  rw[if_pos (by decide),Cf];simp;omega
 ·rw[B9];simp;omega
theorem Df (n:Int):∀b∈itoa n,CF b\/b=45:=by
 intro b Z
 unfold itoa at Z
 split at Z
 ·simp only[List.mem_cons]at Z
  rcases Z with Z|Z
  ·exact .inr Z
  ·exact .inl (xZ _ b Z)
 ·exact .inl (xZ _ b Z)
theorem Ef {u k:Nat} (h:u<10^k) (hk:0<k):(decDigits u).length<=k:=by
 induction k generalizing u with
 |zero=>omega
 |succ k ih=>
  rw[decDigits]
  split
  ·simp
  ·rename_i hu
   rw[List.length_append,List.length_singleton]
   have:=ih (u:=u/10) (by rw[Nat.pow_succ]at h;omega) (by
    cases k with
    |zero=>simp at h;omega
    |succ k=>omega)
   omega
theorem GM {n:Int} (h: -1000000<n/\n<1000000):(itoa n).length<=7:=by
 unfold itoa
 split
 ·have:=Ef (u:=n.natAbs) (k:=6) (by have:(10:Nat)^6=1000000:=(by decide);omega) O
  simp;omega
 ·have:=Ef (u:=n.toNat) (k:=6) (by have:(10:Nat)^6=1000000:=(by decide);omega) O
  omega
def TF (w n:Nat):yA:=List.replicate (w- (decDigits n).length) 48++decDigits n
theorem MQ (w n:Nat):∀b∈TF w n,CF b:=by
 intro b Z
 unfold TF at Z
 rw[List.mem_append]at Z
 rcases Z with Z|Z
 ·rw[List.mem_replicate]at Z;rw[Z.2];unfold CF;decide
 ·exact xZ n b Z
theorem ZL {w n:Nat} (h:n<10^w) (hw:0<w):(TF w n).length=w:=by
 have:=Ef h hw
 unfold TF;rw[List.length_append,List.length_replicate];omega
theorem lq:∀(k:Nat) (r:yA),decFrom 0 (List.replicate k 48++r)=decFrom 0 r
 |0,r=>rfl
 |k+1,r=>by
  rw[List.replicate_succ,List.cons_append]
  simp only[decFrom,show digitVal 48=some 0 from rfl]
  exact lq k r
theorem D9 (w n:Nat):decFrom 0 (TF w n)=some n:=by
 unfold TF;rw[lq,jq]
def DF (t:Int):yA:=
 TF 4 (oA (t/86400)).toNat++TF 2 (KB (t/86400)).toNat++TF 2 (JC (t/86400)).toNat++[84]++TF 2 (t%86400/3600).toNat++TF 2 (t%86400/60%60).toNat++TF 2 (t%86400%60).toNat++[90]
structure yB where
 BA:Int
 GA:Int
 EA:Int
 wk:Int
 EB:Int
 XA:Int
 ls:List (List Int)
 FA:List (Int×Int)
def JN:List yA:=[[89,69,65,82,76,89],[77,79,78,84,72,76,89],[87,69,69,75,76,89],[68,65,73,76,89],[72,79,85,82,76,89],[77,73,78,85,84,69,76,89],[83,69,67,79,78,68,76,89]]
def aF:List yA:=[[77,79],[84,85],[87,69],[84,72],[70,82],[83,65],[83,85]]
def GJ:List yA:=[[66,89,83,69,84,80,79,83],[66,89,77,79,78,84,72],[66,89,77,79,78,84,72,68,65,89],[66,89,89,69,65,82,68,65,89],[66,89,87,69,69,75,78,79],[66,89,72,79,85,82],[66,89,77,73,78,85,84,69],[66,89,83,69,67,79,78,68],[66,89,69,65,83,84,69,82]]
inductive pA where
 |BA (f:Nat)
 |EA (n:Int)
 |HB (w:Nat)
 |EB (n:Int)
 |XA (t:Int)
 |A (k:Nat) (l:List Int)
 |days (l:List (Int×Int))
def cI (n:Int):yA:=if n<0 then itoa n else 43::itoa n
def ZE (d:Int×Int):yA:=if d.2=0 then aF.getD d.1.toNat []else cI d.2++aF.getD d.1.toNat []
def pA.key:pA->yA
 | .BA _=>[70,82,69,81]
 | .EA _=>[73,78,84,69,82,86,65,76]
 | .HB _=>[87,75,83,84]
 | .EB _=>[67,79,85,78,84]
 | .XA _=>[85,78,84,73,76]
 | .A k _=>GJ.getD k []
 | .days _=>[66,89,68,65,89]
def pA.val:pA->yA
 | .BA f=>JN.getD f []
 | .EA n=>itoa n
 | .HB w=>aF.getD w []
 | .EB n=>itoa n
 | .XA t=>DF t
 | .A _ l=>join (l.map itoa) [44]
 | .days l=>join (l.map ZE) [44]
def pA.text (a:pA):yA:=a.key++61::a.val
def pA.put (o:yB):pA->yB
 | .BA f=>{o with BA:=f}
 | .EA n=>{o with EA:=n}
 | .HB w=>{o with wk:=w}
 | .EB n=>{o with EB:=n}
 | .XA t=>{o with XA:=t}
 | .A k l=>{o with ls:=o.ls.set k l}
 | .days l=>{o with FA:=l}
def zZ:yB:=⟨0,0,0,0,0,0,List.replicate 9 [],[]⟩
def DK (o:yB) (k:Nat):List pA:=if o.ls.getD k []=[]then[]else[.A k (o.ls.getD k [])]
def yB.KJ (o:yB):List pA:=
 [.BA o.BA.toNat]++(if o.EA=0 then[]else[.EA o.EA])++(if o.wk=0 then[]else[.HB o.wk.toNat])++(if o.EB=0 then[]else[.EB o.EB])++(if o.XA=0 then[]else[.XA o.XA])++
 DK o 0++DK o 1++DK o 2++DK o 3++DK o 4++(if o.FA=[]then[]else[.days o.FA])++DK o 5++DK o 6++DK o 7++DK o 8
def Aa (o:yB):yA:=join (o.KJ.map pA.text) [59]
def AI:yA:=[68,84,83,84,65,82,84]
def XH:yA:=[82,82,85,76,69,58]
def aJ (o:yB):yA:=AI++58::DF o.GA++10::(XH++Aa o)
def pA.Ok:pA->Prop
 | .BA f=>f<7
 | .EA n=> -100000<n/\n<100000
 | .HB w=>w<7
 | .EB n=> -100000<n/\n<100000
 | .XA t=>0<=t/\t<315537897600
 | .A k l=>k<9/\l≠[]/\l.length<=1000/\∀n∈l,-100000<n/\n<100000
 | .days l=>l≠[]/\l.length<=1000/\∀d∈l,(0<=d.1/\d.1<7)/\-100000<d.2/\d.2<100000
structure yB.Ok (o:yB):Prop where
 BA:0<=o.BA/\o.BA<7
 GA:0<o.GA/\o.GA<315537897600
 EA: -100000<o.EA/\o.EA<100000
 wk:0<=o.wk/\o.wk<7
 EB: -100000<o.EB/\o.EB<100000
 XA:0<=o.XA/\o.XA<315537897600
 ll:o.ls.length=9
 ls:∀l∈o.ls,l.length<=1000/\∀n∈l,-100000<n/\n<100000
 FA:o.FA.length<=1000/\∀d∈o.FA,(0<=d.1/\d.1<7)/\-100000<d.2/\d.2<100000
theorem UFA {PB:Type} (l:List PB) (k:Nat) (d:PB) (h:k<l.length):l.set k (l.getD k d)=l:=by
 rw[List.getD_eq_getElem?_getD,List.getElem?_eq_getElem h];simp
theorem RH {p:yB} {k:Nat} {l:List Int} (h:p.ls[k]? =some []):(if l=[]then([]:List pA)else[.A k l]).foldl pA.put p={p with ls:=p.ls.set k l}:=by
 split
 ·rename_i e
  obtain⟨D,h2⟩:=List.getElem?_eq_some_iff.1 h
  subst e
  have:p.ls.set k []=p.ls:=by rw[<-h2];simp
  rw[this];rfl
 ·rfl
theorem AX {c:Prop} [Decidable c] {a:pA} {p q:yB} (D:c->p=q) (h2:pA.put p a=q):(if c then([]:List pA)else[a]).foldl pA.put p=q:=by
 split
 ·rename_i e;exact D e
 ·exact h2
theorem E9 (o:yB) (h:o.Ok):o.KJ.foldl pA.put {zZ with GA:=o.GA}=o:=by
 have D:=h.BA
 have h2:=h.wk
 have hl:=h.ll
 obtain⟨f,st,EA,wk,EB,XA,ls,FA⟩:=o
 dsimp only at*
 match ls,hl with
 |[l0,l1,l2,l3,l4,l5,l6,l7,l8],_=>
  have e1:(f.toNat:Int)=f:=O
  have e2:(wk.toNat:Int)=wk:=O
  unfold yB.KJ DK
  simp only[List.foldl_append,List.getD_cons_zero,List.getD_cons_succ]
  have s0:[pA.BA f.toNat].foldl pA.put {zZ with GA:=st}=⟨f,st,0,0,0,0,List.replicate 9 [],[]⟩:=by
   simp only[List.foldl_cons,List.foldl_nil,pA.put,zZ,e1]
  rw[s0]
  have s1:(if EA=0 then([]:List pA)else[.EA EA]).foldl pA.put ⟨f,st,0,0,0,0,List.replicate 9 [],[]⟩=⟨f,st,EA,0,0,0,List.replicate 9 [],[]⟩:=AX (λe=>by rw[e]) rfl
  have s2:(if wk=0 then([]:List pA)else[.HB wk.toNat]).foldl pA.put ⟨f,st,EA,0,0,0,List.replicate 9 [],[]⟩=⟨f,st,EA,wk,0,0,List.replicate 9 [],[]⟩:=AX (λe=>by rw[e]) (by simp only[pA.put,e2])
  have s3:(if EB=0 then([]:List pA)else[.EB EB]).foldl pA.put ⟨f,st,EA,wk,0,0,List.replicate 9 [],[]⟩=⟨f,st,EA,wk,EB,0,List.replicate 9 [],[]⟩:=AX (λe=>by rw[e]) rfl
  have s4:(if XA=0 then([]:List pA)else[.XA XA]).foldl pA.put ⟨f,st,EA,wk,EB,0,List.replicate 9 [],[]⟩=⟨f,st,EA,wk,EB,XA,List.replicate 9 [],[]⟩:=AX (λe=>by rw[e]) rfl
  have s5:(if FA=[]then([]:List pA)else[.days FA]).foldl pA.put ⟨f,st,EA,wk,EB,XA,[l0,l1,l2,l3,l4,[],[],[],[]],[]⟩=⟨f,st,EA,wk,EB,XA,[l0,l1,l2,l3,l4,[],[],[],[]],FA⟩:=AX (λe=>by rw[e]) rfl
  rw[s1,s2,s3,s4,RH (k:=0) (l:=l0) rfl,RH (k:=1) (l:=l1) rfl,RH (k:=2) (l:=l2) rfl,RH (k:=3) (l:=l3) rfl,RH (k:=4) (l:=l4) rfl]
  show List.foldl pA.put (List.foldl pA.put (List.foldl pA.put (List.foldl pA.put (List.foldl pA.put ⟨f,st,EA,wk,EB,XA,[l0,l1,l2,l3,l4,[],[],[],[]],[]⟩ _) _) _) _) _=_
  rw[s5,RH (k:=5) (l:=l5) rfl,RH (k:=6) (l:=l6) rfl,RH (k:=7) (l:=l7) rfl,RH (k:=8) (l:=l8) rfl];rfl
def HM (b:UInt8):Prop:=b=10\/b=58\/b=59\/b=61
instance:DecidablePred HM:=λb=>by unfold HM;infer_instance
def UF (s:yA):Prop:=∀b∈s,¬HM b
theorem UF.XM {a b:yA} (h:UF a) (k:UF b):UF (a++b):=λx hx=>by
 rcases List.mem_append.1 hx with hx|hx
 ·exact h x hx
 ·exact k x hx
theorem mq {b:UInt8} (h:CF b):¬HM b:=by
 rintro(e|e|e|e)<;>(subst e;revert h;unfold CF;decide)
theorem F9 {s:yA} (h:∀b∈s,CF b):UF s:=λb Z=>mq (h b Z)
theorem BX (n:Int):UF (itoa n):=λb Z=>by
 rcases Df n b Z with h|h
 ·exact mq h
 ·subst h;decide
theorem Ff {c:UInt8}:∀{ps:List yA} {b:UInt8},b∈join ps [c]->b=c\/∃p∈ps,b∈p
 |[],b,h=>by simp[join_nil]at h
 |[p],b,h=>by rw[join_one]at h;exact .inr ⟨p,by simp,h⟩
 |p::q::r,b,h=>by
  rw[wR,List.mem_append,List.mem_cons]at h
  rcases h with h|h|h
  ·exact .inr ⟨p,by simp,h⟩
  ·exact .inl h
  ·rcases Ff h with h|⟨x,hx,h⟩
   ·exact .inl h
   ·exact .inr ⟨x,by simp only[List.mem_cons]at hx⊢;exact .inr hx,h⟩
theorem nq {ps:List yA} (h:∀p∈ps,UF p):UF (join ps [44]):=λb Z=>by
 rcases Ff Z with e|⟨p,hp,e⟩
 ·subst e;decide
 ·exact h p hp b e
theorem oq (t:Int):UF (DF t):=by
 unfold DF
 have p:∀w n,UF (TF w n):=λw n=>F9 (MQ w n)
 exact((((((((p _ _).XM (p _ _)).XM (p _ _)).XM (b:=[84]) (by unfold UF;decide)).XM (p _ _)).XM (p _ _)).XM (p _ _)).XM (b:=[90]) (by unfold UF;decide))
theorem CX {l:List yA} (h:∀p∈l,UF p) (k:Nat):UF (l.getD k []):=by
 rw[List.getD_eq_getElem?_getD]
 cases e:l[k]? with
 |none=>intro b Z;simp at Z
 |some p=>exact h p (List.mem_of_getElem? e)
theorem G9:∀p∈JN,UF p:=by unfold UF;decide
theorem Gf:∀p∈aF,UF p:=by unfold UF;decide
theorem H9:∀p∈GJ,UF p:=by unfold UF;decide
theorem I9 (n:Int):UF (cI n):=by
 unfold cI
 split
 ·exact BX n
 ·exact UF.XM (a:=[43]) (by unfold UF;decide) (BX n)
theorem J9 (d:Int×Int):UF (ZE d):=by
 unfold ZE
 split
 ·exact CX Gf _
 ·exact(I9 _).XM (CX Gf _)
theorem pq (a:pA):UF a.key:=by
 cases a with
 |A k l=>exact CX H9 k
 |BA f=>intro b Z;revert b;show∀b∈[70,82,69,81],¬HM b;decide
 |EA n=>intro b Z;revert b;show∀b∈[73,78,84,69,82,86,65,76],¬HM b;decide
 |HB w=>intro b Z;revert b;show∀b∈[87,75,83,84],¬HM b;decide
 |EB n=>intro b Z;revert b;show∀b∈[67,79,85,78,84],¬HM b;decide
 |XA t=>intro b Z;revert b;show∀b∈[85,78,84,73,76],¬HM b;decide
 |days l=>intro b Z;revert b;show∀b∈[66,89,68,65,89],¬HM b;decide
theorem qq (a:pA):UF a.val:=by
 cases a with
 |BA f=>exact CX G9 f
 |EA n=>exact BX n
 |HB w=>exact CX Gf w
 |EB n=>exact BX n
 |XA t=>exact oq t
 |A k l=>exact nq λp hp=>by obtain⟨n,_,rfl⟩:=List.mem_map.1 hp;exact BX n
 |days l=>exact nq λp hp=>by obtain⟨n,_,rfl⟩:=List.mem_map.1 hp;exact J9 n
theorem UF.nm {s:yA} (h:UF s) {c:UInt8} (hc:HM c):c∉s:=λhm=>h c hm hc
theorem K9 (a:pA) {c:UInt8} (hc:c=10\/c=58\/c=59):c∉a.text:=by
 unfold pA.text
 rw[List.mem_append,List.mem_cons]
 have hs:HM c:=by rcases hc with h|h|h<;>(subst h;decide)
 rintro(h|h|h)
 ·exact(pq a).nm hs h
 ·subst h;revert hc;decide
 ·exact(qq a).nm hs h
theorem Hf (n:Int):(44:UInt8)∉itoa n:=λh=>by
 rcases Df n _ h with h|h
 ·revert h;unfold CF;decide
 ·revert h;decide
theorem L9 (d:Int×Int):(44:UInt8)∉ZE d:=by
 have hD:∀p∈aF,(44:UInt8)∉p:=by decide
 have hd:(44:UInt8)∉aF.getD d.1.toNat []:=by
  rw[List.getD_eq_getElem?_getD]
  cases e:aF[d.1.toNat]? with
  |none=>simp
  |some p=>exact hD p (List.mem_of_getElem? e)
 have hs:(44:UInt8)∉cI d.2:=by
  unfold cI
  split
  ·exact Hf _
  ·rw[List.mem_cons];rintro(h|h)
   ·revert h;decide
   ·exact Hf _ h
 unfold ZE
 split
 ·exact hd
 ·rw[List.mem_append];rintro(h|h)
  ·exact hs h
  ·exact hd h
theorem CP {t:Int} (h:0<=t/\t<315537897600):(DF t).length=16:=by
 have If:before 10000=3652059:=by decide
 have JI:=OJ (n:=t/86400) (y:=10000) O
 have JH:=rI (n:=t/86400) (y:=1) (by have:before 1=0:=(by decide);omega)
 have hm:1<=KB (t/86400)/\KB (t/86400)<=12:=OI _ _
 have hd:=mM (t/86400)
 have SK:= @OG (oA (t/86400)) (KB (t/86400))
 have p4:(10:Nat)^4=10000:=by decide
 have p2:(10:Nat)^2=100:=by decide
 unfold DF
 simp only[List.length_append,List.length_singleton]
 rw[ZL O O,ZL O O,ZL O O,ZL O O,ZL O O,ZL O O]
end
end Go.Proofs.YtkidgehblodbcaaGreatDoor
