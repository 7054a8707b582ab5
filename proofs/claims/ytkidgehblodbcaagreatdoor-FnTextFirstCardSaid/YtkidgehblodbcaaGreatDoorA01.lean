/- A part of the proof of FnTextFirst: plain lemmas on the calendar and on texts. -/
import Derived.Test.YtkidgehblodbcaaGreatDoorA00
set_option linter.all false
set_option maxRecDepth 100000
set_option maxHeartbeats 16000000
namespace Go.Proofs.YtkidgehblodbcaaGreatDoor
section
def before (y:Int):Int:=365*(y-1)+(y-1)/4- (y-1)/100+(y-1)/400
def iT (y:Int):Bool:=y%4==0&&(y%100 !=0||y%400==0)
def lp (y:Int):Int:=if y%4=0/\(y%100≠0\/y%400=0)then 1 else 0
theorem Tc (y:Int):iT y=decide (lp y=1):=by
 by_cases D:y%4=0<;>by_cases h2:y%100=0<;>by_cases h3:y%400=0<;>simp[iT,lp,D,h2,h3]
theorem tB (y:Int):0<=lp y/\lp y<=1:=by unfold lp;split<;>omega
theorem NG (y:Int):before (y+1)=before y+365+lp y:=by
 unfold before lp;split<;>omega
theorem VN {y z:Int} (h:y<=z):before y<=before z:=by unfold before;omega
theorem Sk {y z:Int} (h:y<z):before y+365<=before z:=by unfold before;omega
def oA (n:Int):Int:=
 let q:=n/146097
 let d:=n%146097
 let c:=if d/36524=4 then 3 else d/36524
 let d:=d-c*36524
 let f:=d/1461
 let d:=d-f*1461
 let o:=if d/365=4 then 3 else d/365
 400*q+100*c+4*f+o+1
theorem Tk {q c f o:Int} (hc:0<=c/\c<=3) (hf:0<=f/\f<=24) (ho:0<=o/\o<=3):before (400*q+100*c+4*f+o+1)=146097*q+36524*c+1461*f+365*o:=by
 unfold before
 have D:(400*q+100*c+4*f+o+1-1)/4=100*q+25*c+f:=O
 have h2:(400*q+100*c+4*f+o+1-1)/100=4*q+c:=O
 have h3:(400*q+100*c+4*f+o+1-1)/400=q:=O
 rw[D,h2,h3];omega
theorem Fz {q c f o:Int} (hc:0<=c/\c<=3) (hf:0<=f/\f<=24) (ho:o=3) (h:f=24->c=3):lp (400*q+100*c+4*f+o+1)=1:=by
 unfold lp;rw[if_pos];omega
theorem vL (n:Int):before (oA n)<=n/\n<before (oA n+1):=by
 unfold oA
 simp only
 generalize hq:n/146097=q
 generalize hd:n%146097=d
 have Uk:0<=d/\d<146097:=O
 have hn:n=146097*q+d:=O
 generalize hc:(if d/36524=4 then 3 else d/36524)=c
 have ZG:0<=c/\c<=3/\0<=d-c*36524/\d-c*36524<=36524/\(c<3->d-c*36524<36524):=by
  rw[<-hc];split<;>omega
 generalize Vk:d-c*36524=e at*
 generalize hf:e/1461=f
 have lM:0<=f/\f<=24/\0<=e-f*1461/\e-f*1461<=1460/\(f=24->c<3->e-f*1461<=1459):=O
 generalize hd3:e-f*1461=g at*
 generalize ho:(if g/365=4 then 3 else g/365)=o
 have qV:0<=o/\o<=3/\0<=g-o*365/\(g-o*365<=364\/(g-o*365=365/\o=3/\g=1460)):=by
  rw[<-ho];split<;>omega
 rw[NG (400*q+100*c+4*f+o+1),Tk ⟨ZG.1,ZG.2.1⟩ ⟨lM.1,lM.2.1⟩ ⟨qV.1,qV.2.1⟩]
 have hl:=tB (400*q+100*c+4*f+o+1)
 refine⟨O,?_⟩
 rcases qV.2.2.2 with h|⟨D,h2,h3⟩
 ·omega
 ·have:=Fz (q:=q) (c:=c) (f:=f) (o:=o) ⟨ZG.1,ZG.2.1⟩ ⟨lM.1,lM.2.1⟩ h2 O
  omega
theorem MR {n y:Int} (D:before y<=n) (h2:n<before (y+1)):oA n=y:=by
 obtain⟨g1,g2⟩:=vL n
 rcases Int.lt_trichotomy (oA n) y with h|h|h
 ·have:=VN (show oA n+1<=y by omega);omega
 ·exact h
 ·have:=VN (show y+1<=oA n by omega);omega
theorem rI {n y:Int} (h:before y<=n):y<=oA n:=by
 obtain⟨g1,g2⟩:=vL n
 rcases(by omega:oA n<y\/y<=oA n)with h'|h'
 ·have:=VN (show oA n+1<=y by omega);omega
 ·exact h'
theorem OJ {n y:Int} (h:n<before y):oA n<y:=by
 obtain⟨g1,g2⟩:=vL n
 rcases(by omega:oA n<y\/y<=oA n)with h'|h'
 ·exact h'
 ·have:=VN h';omega
def fB (y m:Int):Int:=if m=4\/m=6\/m=9\/m=11 then 30 else if m=2 then 28+lp y else 31
def GB (l m:Int):Int:=
 if m<=1 then 0 else if m=2 then 31 else if m=3 then 59+l else if m=4 then 90+l else if m=5 then 120+l else if m=6 then 151+l else if m=7 then 181+l
 else if m=8 then 212+l else if m=9 then 243+l else if m=10 then 273+l else if m=11 then 304+l else if m=12 then 334+l else 365+l
theorem FL {y m:Int} (D:1<=m) (h2:m<=12):GB (lp y) (m+1)=GB (lp y) m+fB y m:=by
 have:m=1\/m=2\/m=3\/m=4\/m=5\/m=6\/m=7\/m=8\/m=9\/m=10\/m=11\/m=12:=O
 rcases this with rfl|rfl|rfl|rfl|rfl|rfl|rfl|rfl|rfl|rfl|rfl|rfl<;>simp[GB,fB]<;>omega
theorem OG {y m:Int}:28<=fB y m/\fB y m<=31:=by
 have:=tB y;unfold fB;repeat' split<;>omega
def BE (l k:Int):Int:=
 if k<31 then 1 else if k<59+l then 2 else if k<90+l then 3 else if k<120+l then 4 else if k<151+l then 5 else if k<181+l then 6 else if k<212+l then 7
 else if k<243+l then 8 else if k<273+l then 9 else if k<304+l then 10 else if k<334+l then 11 else 12
theorem OI (l k:Int):1<=BE l k/\BE l k<=12:=by unfold BE;repeat' split<;>omega
theorem jT {l k:Int} (hl:0<=l/\l<=1) (hk:0<=k/\k<365+l):GB l (BE l k)<=k/\k<GB l (BE l k+1):=by
 unfold BE
 repeat' split
 all_goals (simp[GB];omega)
theorem Wk {l m:Int} (hl:0<=l/\l<=1):GB l m<=GB l (m+1):=by
 have:m<=0\/13<=m\/m=1\/m=2\/m=3\/m=4\/m=5\/m=6\/m=7\/m=8\/m=9\/m=10\/m=11\/m=12:=O
 rcases this with h|h|rfl|rfl|rfl|rfl|rfl|rfl|rfl|rfl|rfl|rfl|rfl|rfl
 ·have D:m<=1:=O
  have h2:m+1<=1:=O
  simp[GB,D,h2]
 ·unfold GB
  repeat rw[if_neg O]
  omega
 all_goals (simp[GB]<;>omega)
theorem mH {l m m':Int} (hl:0<=l/\l<=1) (h:m<=m'):GB l m<=GB l m':=by
 obtain⟨k,rfl⟩:∃k:Nat,m'=m+k:=⟨(m'-m).toNat,O⟩
 clear h
 induction k with
 |zero=>simp
 |succ k ih=>
  have:=Wk (m:=m+k) hl
  rw[show m+((k+1:Nat):Int)=m+k+1 by omega]
  omega
theorem rV {l k m:Int} (hl:0<=l/\l<=1) (hk:0<=k/\k<365+l) (D:GB l m<=k) (h2:k<GB l (m+1)):BE l k=m:=by
 obtain⟨g1,g2⟩:=jT hl hk
 rcases Int.lt_trichotomy (BE l k) m with h|h|h
 ·have:=mH hl (show BE l k+1<=m by omega);omega
 ·exact h
 ·have:=mH hl (show m+1<=BE l k by omega);omega
def idxOf (n:Int):Int:=n-before (oA n)
def KB (n:Int):Int:=BE (lp (oA n)) (idxOf n)
def JC (n:Int):Int:=idxOf n-GB (lp (oA n)) (KB n)+1
theorem qJ (n:Int):0<=idxOf n/\idxOf n<365+lp (oA n):=by
 obtain⟨g1,g2⟩:=vL n
 have:=NG (oA n)
 unfold idxOf;omega
def NA (y m d:Int):Int:=before y+GB (lp y) m+d-1
theorem iP (n:Int):NA (oA n) (KB n) (JC n)=n:=by unfold NA JC idxOf;omega
theorem mM (n:Int):1<=JC n/\JC n<=fB (oA n) (KB n):=by
 obtain⟨g1,g2⟩:=jT (tB (oA n)) (qJ n)
 have h:=FL (y:=oA n) (OI (lp (oA n)) (idxOf n)).1 (OI (lp (oA n)) (idxOf n)).2
 unfold JC KB;omega
structure MA where
 BA:Int
 nH:Bool
 GA:Int
 IA:Int
 HB:Int
 count:Int
 CE:Bool
 xB:Int
 OB:List Int
 VA:List Int
 TA:List Int
 LB:List Int
 sA:List Int
 FA:List (Int×Int)
 SA:List Int
 PA:List Int
 RA:List Int
 NB:List Int
def NR (zs:List Int) (x:Int):Int:=if x∈zs then(zs.idxOf x:Int)else-1
theorem Mz {zs:List Int} {x:Int} (h:∀j<zs.length,zs.getD j 0≠x):NR zs x= -1:=by
 unfold NR
 rw[if_neg]
 intro hm
 obtain⟨j,hj,e⟩:=List.getElem_of_mem hm
 exact h j hj (by rw[List.getD,List.getElem?_eq_getElem hj];exact e)
theorem ek {x:Int}:∀{zs:List Int} {i:Nat},i<zs.length->(∀j<i,zs.getD j 0≠x)->zs.getD i 0=x->zs.idxOf x=i
 |[],i,h,_,_=>by simp at h
 |z::r,0,_,_,hx=>by simp at hx;simp[List.idxOf_cons,hx]
 |z::r,i+1,h,hj,hx=>by
  have h0:z≠x:=by simpa using hj 0 O
  have:=ek (zs:=r) (i:=i) (by simpa using h) (λj qL=>by simpa using hj (j+1) O) (by simpa using hx)
  rw[List.idxOf_cons,this,show(z==x)=false by simp[h0]]
  rfl
theorem Nz {zs:List Int} {x:Int} {i:Nat} (hi:i<zs.length) (h:∀j<i,zs.getD j 0≠x) (hx:zs.getD i 0=x):NR zs x=i:=by
 have hm:x∈zs:=by
  rw[List.getD,List.getElem?_eq_getElem hi]at hx
  exact hx▸List.getElem_mem hi
 unfold NR
 rw[if_pos hm,ek hi h hx]
theorem Oz (zs:List Int) (x:Int):(0<=NR zs x)↔x∈zs:=by
 unfold NR;split<;>simp_all
def OR (ds:List (Int×Int)) (x:Int×Int):Int:=if x∈ds then(ds.idxOf x:Int)else-1
theorem Pz {zs:List (Int×Int)} {x:Int×Int} (h:∀j<zs.length,zs.getD j (0,0)≠x):OR zs x= -1:=by
 unfold OR
 rw[if_neg]
 intro hm
 obtain⟨j,hj,e⟩:=List.getElem_of_mem hm
 exact h j hj (by rw[List.getD,List.getElem?_eq_getElem hj];exact e)
theorem fk {x:Int×Int}:∀{zs:List (Int×Int)} {i:Nat},i<zs.length->(∀j<i,zs.getD j (0,0)≠x)->zs.getD i (0,0)=x->zs.idxOf x=i
 |[],i,h,_,_=>by simp at h
 |z::r,0,_,_,hx=>by simp at hx;simp[hx]
 |z::r,i+1,h,hj,hx=>by
  have h0:z≠x:=by simpa using hj 0 O
  have:=fk (zs:=r) (i:=i) (by simpa using h) (λj qL=>by simpa using hj (j+1) O) (by simpa using hx)
  rw[List.idxOf_cons,this,show(z==x)=false by simp[h0]]
  rfl
theorem Qz {zs:List (Int×Int)} {x:Int×Int} {i:Nat} (hi:i<zs.length) (h:∀j<i,zs.getD j (0,0)≠x) (hx:zs.getD i (0,0)=x):OR zs x=i:=by
 have hm:x∈zs:=by
  rw[List.getD,List.getElem?_eq_getElem hi]at hx
  exact hx▸List.getElem_mem hi
 unfold OR
 rw[if_pos hm,fk hi h hx]
theorem Rz (zs:List (Int×Int)) (x:Int×Int):(0<=OR zs x)↔x∈zs:=by
 unfold OR;split<;>simp_all
def gO (ds:List (Int×Int)) (p:Int×Int->Bool):Int:=if ds.any p then(ds.findIdx p:Int)else-1
theorem Wc (zs:List (Int×Int)) (p:Int×Int->Bool):(0<=gO zs p)↔zs.any p=true:=by
 unfold gO;split<;>simp_all
theorem Xc {zs:List (Int×Int)} {p:Int×Int->Bool} (h:∀j<zs.length,p (zs.getD j (0,0))=false):gO zs p= -1:=by
 unfold gO
 rw[if_neg]
 intro hm
 obtain⟨x,hx,e⟩:=List.any_eq_true.1 hm
 obtain⟨j,hj,rfl⟩:=List.getElem_of_mem hx
 have:=h j hj
 rw[List.getD,List.getElem?_eq_getElem hj]at this
 simp only[Option.getD_some]at this
 rw[this]at e;cases e
theorem gk {p:Int×Int->Bool}:∀{zs:List (Int×Int)} {i:Nat},i<zs.length->(∀j<i,p (zs.getD j (0,0))=false)->p (zs.getD i (0,0))=true->zs.findIdx p=i
 |[],i,h,_,_=>by simp at h
 |z::r,0,_,_,hx=>by simp at hx;simp[List.findIdx_cons,hx]
 |z::r,i+1,h,hj,hx=>by
  have h0:p z=false:=by simpa using hj 0 O
  have:=gk (zs:=r) (i:=i) (by simpa using h) (λj qL=>by simpa using hj (j+1) O) (by simpa using hx)
  rw[List.findIdx_cons,this,h0]
  rfl
theorem Yc {zs:List (Int×Int)} {p:Int×Int->Bool} {i:Nat} (hi:i<zs.length) (h:∀j<i,p (zs.getD j (0,0))=false) (hx:p (zs.getD i (0,0))=true):gO zs p=i:=by
 have hm:zs.any p=true:=by
  rw[List.getD,List.getElem?_eq_getElem hi]at hx
  exact List.any_eq_true.2 ⟨_,List.getElem_mem hi,hx⟩
 unfold gO
 rw[if_pos hm,gk hi h hx]
def CC (l:List Int) (n:Int):Bool:=l.isEmpty||l.contains n
def tI (l:List Int) (n all:Int):Bool:=l.isEmpty||l.contains n||l.contains (n-all-1)
def within (l:List Int) (kB low UK:Int) (zero:Bool):Bool:=
 decide ((l.length:Int)<=kB)&&l.all (λn=>decide (low<=n/\n<=UK/\(n=0->zero=true)))&&decide l.Nodup
def MA.kC (r:MA):Bool:=decide (0<r.TA.length+r.LB.length+r.sA.length+r.FA.length+r.NB.length)
def MA.Rh (r:MA):Bool:=r.kC||decide (0<r.VA.length+r.SA.length+r.PA.length+r.RA.length)
def OH (f:Int):Int:=if f=0 then 400 else if f=1\/f=2 then 3000 else if f=3 then 8000 else 30000
def oM (y:Int):Int:=365+lp y
def VK (y HB:Int):Int:=
 let n:=before y
 let b:=(n%7-HB+7)%7
 if b<=3 then n-b else n-b+7
def nE (n HB:Int):Int:=if n<VK (oA n) HB then oA n-1 else if n>=VK (oA n+1) HB then oA n+1 else oA n
def sA (n HB:Int):Int:=(n-VK (nE n HB) HB)/7+1
def qM (y HB:Int):Int:=(VK (y+1) HB-VK y HB)/7
def PI (y:Int):Int:=(19*(y%19)+y/100-y/100/4- (8*(y/100)+13)/25+15)%30
def PH (y:Int):Int:=if PI y<28 then PI y else if PI y=28 then 27+(21-y%19)/11 else 28
def wC (y:Int):Int:=NA y 3 28+PH y- (y+y/4+PH y+2-y/100+y/100/4)%7
theorem cY {y:Int} (h:0<=y/\y<=100000):0<=PI y/\PI y<=29:=by unfold PI;omega
theorem uV {y:Int} (h:0<=y/\y<=100000):0<=PH y/\PH y<=28:=by
 have:=cY h
 unfold PH;(repeat' split)<;>omega
theorem PR (y w:Int):before y-3<=VK y w/\VK y w<=before y+3:=by
 unfold VK;simp only;split<;>omega
def zF (r:MA) (n y m d:Int) (x:Int×Int):Bool:=
 n%7==x.1&&(x.2==0||(if r.BA=0/\r.VA=[]then
   ((n-before y+1-1)/7+1==x.2|| -((oM y- (n-before y+1))/7+1)==x.2)
  else((d-1)/7+1==x.2|| -((fB y m-d)/7+1)==x.2)))
def vV (r:MA) (n y m d:Int):Bool:=
 CC r.VA m&&tI r.TA d (fB y m)&&(r.LB.isEmpty||tI r.LB (n-before y+1) (oM y))&&
 (r.sA.isEmpty||tI r.sA (sA n r.HB) (qM (nE n r.HB) r.HB))&&
 (r.NB.isEmpty||r.NB.contains (n-wC y))&&(r.FA.isEmpty||r.FA.any (zF r n y m d))
def stays (r:MA) (n:Int):Bool:=vV r n (oA n) (KB n) (JC n)
structure MA.Fits (r:MA):Prop where
 OB:r.OB.length<=2147483647
 VA:r.VA.length<=2147483647
 TA:r.TA.length<=2147483647
 LB:r.LB.length<=2147483647
 sA:r.sA.length<=2147483647
 FA:r.FA.length<=2147483647
 SA:r.SA.length<=2147483647
 PA:r.PA.length<=2147483647
 RA:r.RA.length<=2147483647
 NB:r.NB.length<=2147483647
def NC (r:MA) (k:Int):Int×Int×Bool:=
 let s:=r.GA/86400
 if r.BA=0 then
  let y:=oA s+k*r.IA
  (before y,before (y+1)-1,decide (y<=9999))
 else if r.BA=1 then
  let ms:=KB s-1+k*r.IA
  let y:=oA s+ms/12
  let m:=ms%12+1
  (NA y m 1,NA y m 1+fB y m-1,decide (y<=9999))
 else if r.BA=2 then
  let f:=s- (s%7-r.HB+7)%7+7*k*r.IA
  (f,f+6,decide (f<before 10000))
 else
  let f:=s+k*r.IA
  (f,f,decide (f<before 10000))
structure MA.Ok (r:MA):Prop where
 fits:r.Fits
 BA:0<=r.BA/\r.BA<=6
 GA:31536000<=r.GA/\r.GA<284100000000
 IA:0<=r.IA/\r.IA<=1000
 HB:0<=r.HB/\r.HB<=6
theorem Zc {k i K:Int} (hk:0<=k/\k<=K) (hi:0<=i/\i<=1000):0<=k*i/\k*i<=K*1000:=by
 refine⟨Int.mul_nonneg hk.1 hi.1,?_⟩
 exact Int.le_trans (Int.mul_le_mul_of_nonneg_right hk.2 hi.1) (Int.mul_le_mul_of_nonneg_left hi.2 O)
theorem wV {y:Int} (h:1<=y/\y<=1000000):0<=before y/\before y<=400000000:=by unfold before;omega
theorem ik {y m d:Int} (h:1<=y/\y<=1000000) (hm:1<=m/\m<=13) (hd:1<=d/\d<=1000):0<=NA y m d/\NA y m d<=400001400:=by
 have D:=wV h
 have h2:=mH (tB y) (show 0<=m by omega)
 have h3:=mH (tB y) hm.2
 have h4:GB (lp y) 13=365+lp y:=by simp[GB]
 have h5:GB (lp y) 0=0:=rfl
 have h6:=tB y
 unfold NA;omega
theorem bc (f:Int):0<=OH f/\OH f<=30000/\(f=0->OH f=400)/\(f=1->OH f=3000)/\(f=2->OH f=3000)/\(f=3->OH f=8000):=by
 unfold OH;(repeat' split)<;>omega
def QJ (l ps:List Int) (i:Nat):List Int:=((List.range i).filter λ(j:Nat)=>ps.contains ((j:Int)+1)||ps.contains ((j:Int)-l.length)).map λ(j:Nat)=>l.getD j 0
def gE (l ps:List Int):List Int:=if ps=[]then l else QJ l ps l.length
theorem nz {l ps:List Int} {i:Nat} (h:(ps.contains ((i:Int)+1)||ps.contains ((i:Int)-l.length))=true):QJ l ps (i+1)=QJ l ps i++[l.getD i 0]:=by
 simp only[QJ,List.range_succ,List.filter_append,List.map_append]
 congr 1
 simp only[List.filter_cons,h,if_true,List.filter_nil,List.map_cons,List.map_nil]
theorem oz {l ps:List Int} {i:Nat} (h:(ps.contains ((i:Int)+1)||ps.contains ((i:Int)-l.length))=false):QJ l ps (i+1)=QJ l ps i:=by
 simp only[QJ,List.range_succ,List.filter_append,List.map_append]
 rw[List.filter_cons,h]
 simp
theorem pz (l ps:List Int) (i:Nat):(QJ l ps i).length<=i:=by
 simp only[QJ,List.length_map]
 exact Nat.le_trans (List.length_filter_le _ _) (by simp)
abbrev HL (l:List Int):Prop:=l.Pairwise (·<=·)
theorem jY:∀{a b:List Int},a.Perm b->HL a->HL b->a=b
 |[],b,h,_,_=>(List.Perm.nil_eq h)
 |x::a,[],h,_,_=>absurd h.symm.nil_eq (by simp)
 |x::a,y::b,h,ha,Z=>by
  have Cl:=List.pairwise_cons.1 ha
  have qC:=List.pairwise_cons.1 Z
  have e:x=y:=by
   have D:x∈y::b:=h.subset List.mem_cons_self
   have h2:y∈x::a:=h.symm.subset List.mem_cons_self
   rcases List.mem_cons.1 D with D|D
   ·exact D
   ·rcases List.mem_cons.1 h2 with h2|h2
    ·exact h2.symm
    ·have:=Cl.1 y h2;have:=qC.1 x D;omega
  subst e
  rw[jY (List.Perm.cons_inv h) Cl.2 qC.2]
def UR (x:Int):List Int->List Int
 |[]=>[x]
 |y::r=>if x<=y then x::y::r else y::UR x r
def nB:List Int->List Int
 |[]=>[]
 |x::r=>UR x (nB r)
theorem mc (x:Int):∀l,(UR x l).Perm (x::l)
 |[]=> .refl _
 |y::r=>by
  unfold UR;split
  ·exact .refl _
  ·exact((mc x r).cons y).trans (.swap x y r)
theorem xV:∀l,(nB l).Perm l
 |[]=> .refl _
 |x::r=>(mc x _).trans ((xV r).cons x)
theorem Dl (x:Int):∀{l},HL l->HL (UR x l)
 |[],_=>by simp[UR,HL]
 |y::r,h=>by
  have h':=List.pairwise_cons.1 h
  unfold UR;split
  ·rename_i tz
   exact List.pairwise_cons.2 ⟨λz hz=>by rcases List.mem_cons.1 hz with rfl|hz;exact tz;have:=h'.1 z hz;omega,h⟩
  ·refine List.pairwise_cons.2 ⟨λz hz=> ?_,Dl x h'.2⟩
   rcases List.mem_cons.1 ((mc x r).subset hz)with rfl|hz
   ·omega
   ·exact h'.1 z hz
theorem nc:∀l,HL (nB l)
 |[]=>List.Pairwise.nil
 |x::r=>Dl x (nc r)
theorem uz {l zs:List Int} (h:l.Perm zs) (hs:HL l):l=nB zs:=jY (h.trans (xV zs).symm) hs (nc zs)
theorem uI (l:List Int):(nB l).length=l.length:=(xV l).length_eq
theorem QH {l:List Int} {x:Int}:x∈nB l↔x∈l:=(xV l).mem_iff
theorem El {l:List Int} (h:l.Nodup):(nB l).Nodup:=(xV l).nodup_iff.2 h
def oH (S:List Int) (x:Int) (rest:List Int) (j:Nat):List Int:=S.take j++x::(S.drop j++rest)
theorem oc {S rest:List Int} {x:Int} {j:Nat} (h:j<=S.length):(oH S x rest j).getD j 0=x:=by
 simp[oH,List.getD_eq_getElem?_getD,List.getElem?_append_right,List.length_take,Nat.min_eq_left h]
theorem pc {S rest:List Int} {x:Int} {j:Nat} (h:j+1<=S.length):(oH S x rest (j+1)).getD j 0=S.getD j 0:=by
 have D:j<(S.take (j+1)).length:=by simp;omega
 simp only[oH,List.getD_eq_getElem?_getD]
 rw[List.getElem?_append_left D,List.getElem?_take,if_pos O]
theorem vz {S rest:List Int} {x:Int} {j:Nat} (h:j+1<=S.length):((oH S x rest (j+1)).set (j+1) (S.getD j 0)).set j x=oH S x rest j:=by
 have hj:j<S.length:=O
 have e1:S.take (j+1)=S.take j++[S.getD j 0]:=by
  rw[List.take_succ_eq_append_getElem hj,List.getD_eq_getElem?_getD,List.getElem?_eq_getElem hj];rfl
 have e2:S.drop j=S.getD j 0::S.drop (j+1):=by
  rw[List.drop_eq_getElem_cons hj,List.getD_eq_getElem?_getD,List.getElem?_eq_getElem hj];rfl
 have l1:(S.take j).length=j:=by simp;omega
 unfold oH
 rw[e1,e2]
 simp only[List.append_assoc,List.singleton_append,List.cons_append]
 rw[List.set_append_right _ _ O,List.set_append_right _ _ O]
 simp[l1]
theorem wz (S rest:List Int) (x:Int) {j:Nat} (h:j<=S.length):(oH S x rest j).length=S.length+1+rest.length:=by
 simp[oH];omega
theorem Fl (S rest:List Int) (x:Int) (j:Nat):(oH S x rest j).Perm (S++x::rest):=by
 unfold oH
 have D:(S.take j++x::(S.drop j++rest)).Perm (x::(S.take j++(S.drop j++rest))):=List.perm_middle
 have h2:(S++x::rest).Perm (x::(S++rest)):=List.perm_middle
 rw[<-List.append_assoc,List.take_append_drop]at D
 exact D.trans h2.symm
theorem xz {S rest:List Int} {x:Int} {j:Nat} (hj:j<=S.length) (hs:HL S) (D:∀y∈S.drop j,x<y) (h2:j=0\/S.getD (j-1) 0<=x):HL ((oH S x rest j).take (S.length+1)):=by
 have e:(oH S x rest j).take (S.length+1)=S.take j++x::S.drop j:=by
  unfold oH
  rw[show S.take j++x::(S.drop j++rest)=(S.take j++x::S.drop j)++rest by simp]
  exact List.take_left' eA
 rw[e]
 have iB:HL (S.take j++S.drop j):=by rw[List.take_append_drop];exact hs
 obtain⟨a1,a2,a3⟩:=List.pairwise_append.1 iB
 refine List.pairwise_append.2 ⟨a1,List.pairwise_cons.2 ⟨λy hy=>Int.le_of_lt (D y hy),a2⟩,λy hy z hz=> ?_⟩
 rcases List.mem_cons.1 hz with rfl|hz
 ·rcases h2 with rfl|h2
  ·simp at hy
  ·obtain⟨k,hk,rfl⟩:=List.getElem_of_mem hy
   have ZM:k<j:=by simp at hk;omega
   have yz:k<S.length:=O
   have:(S.take j)[k]=S[k]:=by simp
   rw[this]
   rw[List.getD_eq_getElem?_getD,List.getElem?_eq_getElem O]at h2
   simp only[Option.getD_some]at h2
   rcases(by omega:k=j-1\/k<j-1)with rfl|fA
   ·exact h2
   ·have:=List.pairwise_iff_getElem.1 hs k (j-1) yz O fA
    omega
 ·exact a3 y hy z hz
def MA.lF (r:MA):Int:=if r.BA=1\/(r.BA=0/\0<r.VA.length)then 5 else if r.BA=0/\r.sA.length=0 then 53 else 0
def lP (kB:Int) (d:Int×Int):Prop:=0<=d.1/\d.1<=6/\-kB<=d.2/\d.2<=kB
def FD (n:Nat):Int:=if(n:Int)>1 then n else 1
structure MA.Clean (r:MA):Prop where
 BA:r.BA<=6
 nH:r.nH=true
 GA:before 2*86400<=r.GA/\r.GA<before 9001*86400
 IA:0<=r.IA/\r.IA<=1000
 HB:0<=r.HB/\r.HB<=6
 count:0<=r.count/\r.count<=1000
 xB:r.CE=true->r.GA<=r.xB/\r.xB<before 10000*86400
 OB:within r.OB 12 (-366) 366 false=true
 VA:within r.VA 12 1 12 false=true
 TA:within r.TA 12 (-31) 31 false=true
 LB:within r.LB 12 (-366) 366 false=true
 sA:within r.sA 12 (-53) 53 false=true
 SA:within r.SA 12 0 23 true=true
 PA:within r.PA 12 0 59 true=true
 RA:within r.RA 12 0 59 true=true
 NB:within r.NB 12 (-80) 80 true=true
 mP:r.FA.length<=12
 times:FD r.SA.length*FD r.PA.length*FD r.RA.length<=60
 O0:r.FA.Nodup
 oP:∀d∈r.FA,lP r.lF d
 nT:0<r.sA.length->r.BA=0
 rc:0<r.NB.length->r.BA=0
 Ol:0<r.TA.length->r.BA≠2
 Pl:0<r.LB.length->¬(r.BA=1\/r.BA=2\/r.BA=3)
 pos:0<r.OB.length->r.Rh=true
noncomputable def MA.JJ (r:MA):Bool:= @decide r.Clean (Classical.propDecidable _)
theorem MA.yX (r:MA):r.JJ=true↔r.Clean:=by
 unfold MA.JJ;exact@decide_eq_true_iff _ (Classical.propDecidable _)
theorem XE {l:List Int} {a b c:Int} {z:Bool} (h:within l a b c z=true):(l.length:Int)<=a:=by
 simp only[within,Bool.and_eq_true,decide_eq_true_eq]at h;exact h.1.1
theorem tc {l:List Int} {a b c:Int} {z:Bool} (h:within l a b c z=true):l.Nodup:=by
 simp only[within,Bool.and_eq_true,decide_eq_true_eq]at h;exact h.2
theorem SH {l:List Int} {a b c:Int} {z:Bool} (h:within l a b c z=true) {n:Int} (hn:n∈l):b<=n/\n<=c/\(n=0->z=true):=by
 simp only[within,Bool.and_eq_true,decide_eq_true_eq,List.all_eq_true]at h;exact h.1.2 n hn
theorem sJ {n:Nat} (h:(n:Int)<=12):1<=FD n/\FD n<=12:=by unfold FD;split<;>omega
theorem uc {a b:Int} {K:Int} (ha:1<=a/\a<=K) (Z:1<=b/\b<=12):1<=a*b/\a*b<=K*12:=by
 constructor
 ·have:=Int.mul_le_mul ha.1 Z.1 O O;omega
 ·exact Int.mul_le_mul ha.2 Z.2 O O
theorem uY {d q c f o:Int} (hq:q=d/146097) (hc:(c=(d-q*146097)/36524/\¬(d-q*146097)/36524=4)\/((d-q*146097)/36524=4/\c=3)) (hf:f=(d-q*146097-c*36524)/1461)
  (ho:(o=(d-q*146097-c*36524-f*1461)/365/\¬(d-q*146097-c*36524-f*1461)/365=4)\/((d-q*146097-c*36524-f*1461)/365=4/\o=3)):
  oA d=400*q+100*c+4*f+o+1/\idxOf d=d-q*146097-c*36524-f*1461-o*365:=by
 have e1:d%146097=d-q*146097:=O
 have e2:(if(d-q*146097)/36524=4 then 3 else(d-q*146097)/36524)=c:=by
  rcases hc with⟨D,h2⟩|⟨D,h2⟩
  ·rw[if_neg h2,D]
  ·rw[if_pos D,h2]
 have e3:(if(d-q*146097-c*36524-f*1461)/365=4 then 3 else(d-q*146097-c*36524-f*1461)/365)=o:=by
  rcases ho with⟨D,h2⟩|⟨D,h2⟩
  ·rw[if_neg h2,D]
  ·rw[if_pos D,h2]
 have hy:oA d=400*q+100*c+4*f+o+1:=by
  unfold oA
  simp only[<-hq,e1,e2,<-hf,e3]
 refine⟨hy,?_⟩
 have ZG:0<=c/\c<=3/\0<=d-q*146097-c*36524/\d-q*146097-c*36524<=36524:=by
  rcases hc with⟨D,h2⟩|⟨D,h2⟩<;>omega
 have lM:0<=f/\f<=24/\0<=d-q*146097-c*36524-f*1461/\d-q*146097-c*36524-f*1461<=1460:=O
 have qV:0<=o/\o<=3:=by rcases ho with⟨D,h2⟩|⟨D,h2⟩<;>omega
 unfold idxOf
 rw[hy,Tk ⟨ZG.1,ZG.2.1⟩ ⟨lM.1,lM.2.1⟩ qV]
 omega
theorem lO (l:Int):GB l 1=0:=by simp[GB]
theorem cN (l:Int):GB l 13=365+l:=by simp[GB]
theorem Z1 {l m:Int} (h:13<=m):GB l m=365+l:=by
 unfold GB
 repeat rw[if_neg O]
theorem bG {l m:Int} (hl:0<=l/\l<=1):0<=GB l m/\GB l m<=366:=by
 rcases(by omega:m<=1\/(1<=m/\m<=13)\/13<=m)with h|h|h
 ·unfold GB;rw[if_pos h];omega
 ·have D:=mH hl h.1
  have h2:=mH hl h.2
  rw[cN]at h2
  rw[lO]at D
  omega
 ·rw[Z1 h];omega
theorem dN {y m d:Int} (hm:1<=m/\m<=12) (hd:1<=d/\d<=fB y m):oA (NA y m d)=y/\idxOf (NA y m d)=GB (lp y) m+d-1/\KB (NA y m d)=m/\JC (NA y m d)=d:=by
 have hl:=tB y
 have D:=FL (y:=y) hm.1 hm.2
 have h2:=mH hl (show m+1<=13 by omega)
 have h3:=bG (m:=m) hl
 have h4:=NG y
 rw[cN]at h2
 have hy:oA (NA y m d)=y:=MR (by unfold NA;omega) (by unfold NA;omega)
 have hi:idxOf (NA y m d)=GB (lp y) m+d-1:=by unfold idxOf;rw[hy];unfold NA;omega
 have vI:KB (NA y m d)=m:=by
  unfold KB;rw[hy,hi]
  exact rV hl O O O
 refine⟨hy,hi,vI,?_⟩
 unfold JC;rw[hi,hy,vI];omega
theorem vY {n:Int} (h:0<=n):1<=oA n:=rI (by unfold before;omega)
theorem CW (n:Int):1<=KB n/\KB n<=12:=OI _ _
def KD (y m d:Int):Int:=NA (y+(m-1)/12) ((m-1)%12+1) d
theorem XK {y m d:Int} (hm:1<=m/\m<=12):KD y m d=NA y m d:=by
 unfold KD;rw[show(m-1)/12=0 by omega,show(m-1)%12+1=m by omega,Int.add_zero]
theorem x1 {y m:Int} (hm:1<=m/\m<=12):KD y (m+1) 0=NA y m (fB y m):=by
 have D:=FL (y:=y) hm.1 hm.2
 have h2:=NG y
 unfold KD NA
 by_cases e:m=12
 ·subst e
  rw[show y+(12+1-1)/12=y+1 by omega,show(12+1-1)%12+1=(1:Int)by omega,lO]
  rw[show(12:Int)+1=13 by rfl,cN]at D
  omega
 ·rw[show y+(m+1-1)/12=y by omega,show(m+1-1)%12+1=m+1 by omega]
  omega
theorem A2 (y m d i:Int):NA y m (d+i)=NA y m d+i:=by unfold NA;omega
theorem B2 (n:Int):n-7*(n/7)=n%7:=O
end
end Go.Proofs.YtkidgehblodbcaaGreatDoor
