/- A part of the proof of FnTextFirst: the calendar's rebuild, walked. -/
import Derived.Test.YtkidgehblodbcaaGreatDoorA10
set_option linter.all false
set_option maxRecDepth 100000
set_option maxHeartbeats 16000000
namespace Go.Proofs.YtkidgehblodbcaaGreatDoor
namespace En
open Go.RowKit
theorem ZA.left {G:wA}:∀{xs ys:List SV} {vs:List Value},ZA G (xs++ys) vs->∃v1 v2,vs=v1++v2/\ZA G xs v1
 |[],ys,vs,_=>⟨[],vs,rfl,rfl⟩
 |x::r,ys,vs,d=>by
  obtain⟨v,w,rfl,d1,d2⟩:=d
  obtain⟨v1,v2,rfl,d3⟩:=ZA.left d2
  exact⟨v::v1,v2,rfl,v,v1,rfl,d1,d3⟩
theorem Np (b:Nat) {es:Nat} {e:TypeId} (xs ys:List SV) {C:Cx} {c:Code} {F:FS} {H:HS} {Y:Nat} {Q:QT} (hl:WA H b=some (.X es e (xs++ys))) (h:T C c F ((b,some (.X es e xs))::H) Y Q):T C c F H Y Q:=by
 refine⟨λG a w hf=>h.ok G a w ⟨hf.iD,hf.le,hf.PK,?_,hf.ms.size,hf.ms.defers,hf.ms.gC⟩⟩
 have M:=hf.ms.heap
 have NJ:∀i k,WA ((b,some (.X es e xs))::H) i=some k->(i=b/\k= .X es e xs)\/(i≠b/\WA H i=some k):=λi k hi=>by
  simp only[WA]at hi
  by_cases e':b=i
  ·rw[if_pos e']at hi;cases hi;exact .inl ⟨e'.symm,rfl⟩
  ·rw[if_neg e']at hi;exact .inr ⟨Ne.symm e',hi⟩
 have fix:∀i k,WA ((b,some (.X es e xs))::H) i=some k->∃k',WA H i=some k'/\(k.own=true->k'.own=true):=λi k hi=>by
  rcases NJ i k hi with⟨rfl,rfl⟩|⟨_,h2⟩
  ·exact⟨_,hl,λ_=>rfl⟩
  ·exact⟨k,h2,λh=>h⟩
 refine⟨M.os,M.tape,M.output,M.size,M.eE,λi k hi=> ?_,λi k hi ho r o c eb=> ?_,λi j k k' hi hj ho LC r o c o' c' eb wD=> ?_⟩
 ·rcases NJ i k hi with⟨rfl,rfl⟩|⟨_,h2⟩
  ·rcases M.ok _ _ hl with⟨e1,e2⟩|⟨r,c,cs,sp,e1,e2,d,e3,e4⟩
   ·exact .inl ⟨e1,(List.append_eq_nil_iff.1 e2).1⟩
   ·obtain⟨v1,v2,rfl,d1⟩:=d.left
    exact .inr ⟨r,c,v1,v2++sp,e1,by rw[e2,List.append_assoc],d1,by simp at e3⊢;omega,e4⟩
  ·exact M.ok i k h2
 ·obtain⟨k',D,h2⟩:=fix i k hi
  exact M.own i k' D (h2 ho) r o c eb
 ·obtain⟨k1,D,h2⟩:=fix i k hi
  obtain⟨k2,h3,h4⟩:=fix j k' hj
  exact M.inj i j k1 k2 D h3 (h2 ho) LC r o c o' c' eb wD
def QE (r:RR) (len:Int):List SV:=
 List.replicate 38 (.any λ_=>True)++[I r.BA,I r.dt,I 0,I r.EA,I r.wk,I r.EB,I r.XA,I r.un, .s 2 0 r.sp.length, .s 3 0 r.bm.length, .s 4 0 r.FC.length, .s 5 0 r.GC.length, .s 6 0 r.PF.length, .s 7 0 r.uB.length, .s 8 0 r.VC.length, .s 9 0 r.vA.length,
  .s 10 0 r.bh.length, .s 11 0 r.bi.length, .s 12 0 r.bs.length, .s 13 0 r.be.length, .s 14 0 r.ts.length,I len]
def kZ (r:RR):HS:=[(2,some (.ro (A r.sp))),(3,some (.ro (A r.bm))),(4,some (.ro (A r.FC))),(5,some (.ro (A r.GC))),(6,some (.ro (A r.PF))),(7,some (.ro (A r.uB))),(8,some (.ro (A r.VC))),(9,some (.ro (xA r.vA))),
 (10,some (.ro (A r.bh))),(11,some (.ro (A r.bi))),(12,some (.ro (A r.bs))),(13,some (.ro (A r.be)))]
def XB (x:IT) (mm mr md nd wd wn nw ea ts st ds:Nat):List SV:=
 [I x.y,I x.m,I x.d,I x.hh,I x.mi,I x.s,I x.wd, .p 1 0,I x.ly,I x.lm,I x.yl,I x.dG,I x.fy,I 0,I x.yw, .s mm 0 x.mm.length, .s mr 0 x.mr.length, .s md 0 x.md.length, .s nd 0 x.nd.length, .s wd x.yw (x.XC.length-x.yw), .s wn 0 x.wn.length, .s nw 0 x.nw.length, .s ea 0 x.ea.length,
  .s ts 0 x.ts.length,I x.total,I x.count, .s st (2*x.so) x.sl, .s st 0 x.st.length,B x.fin, .s ds 0 x.ds.length]
abbrev kE (x:IT):List SV:=XB x 15 16 17 18 19 20 21 22 23 24 25
def uC (l:List (Int×Bool)):List SV:=l.flatMap λp=>[I p.1,B p.2]
theorem cW:∀l:List (Int×Bool),(uC l).length=2*l.length
 |[]=>rfl
 |p::l=>by simp only[uC,List.flatMap_cons,List.length_append,List.length_cons,List.length_nil]at*;have:=cW l;simp only[uC]at this;omega
end En
namespace En
open Go.RowKit Go.Proofs.Tryz
theorem lZ (a b:Nat):(SD a b).length=b-a:=by simp[SD]
theorem P7 {a i:Nat} (h:a<=i):SD a (i+1)=SD a i++[((i:Int),true)]:=by
 unfold SD
 rw[show i+1-a=(i-a)+1 by omega,List.range'_concat,List.map_append]
 simp;omega
theorem BK (LA:Nat->Nat):∀l:List (Int×Bool),YA LA (uC l)=uC l
 |[]=>rfl
 |p::l=>by
  have e:=BK LA l
  simp only[uC,List.flatMap_cons,List.cons_append,List.nil_append,YA,SV.IB]at e⊢
  rw[e]
theorem dW {LA:Nat->Nat} {H:HS} {b:Nat} {xs:List SV} {l:List (Int×Bool)} (h:WA H (LA b)=some (.X 2 194 xs)) (hx:xs=uC l):aE LA H b (.X 2 194 (uC l)):=by
 show WA H (LA b)=some (.X 2 194 (YA LA (uC l)))
 rw[h,hx,BK]
def Pp (x:IT) (a b:Nat):MB {i:Nat//a<=i/\i<=b}where
 F i:=[(0, .u (.p 0 0)),(2, .u (I b)),(7, .u (I i.1))]
 H i:=[(0,some (.st (XB {x with ds:=SD a i.1} 15 16 17 18 19 20 21 22 23 24 26))),(26,some (.X 2 194 (uC (SD a i.1))))]
 n i:=27
theorem Q7 (x:IT) (a b:Nat) (xD:a<=b) (Z:b<=400):
  Fn prog 142 [.p 0 0,I a,I b] [(0,some (.st (kE x))),(25,some (.X 2 194 (uC x.ds)))] 26 (.jA []) [(0,some (.st (XB {x with ds:=SD a b} 15 16 17 18 19 20 21 22 23 24 26))),(26,some (.X 2 194 (uC (SD a b))))] 27:=by
 refine fm (KA 17180000455) func142 λw W G g=> ?_
 refine Np 25 [] (uC x.ds) rfl ?_
 repeat' (first
  |(refine Kx 17 (p:=il) rfl ?_;rintro _ ⟨bb,rfl⟩)
  |refine tk ?_
  |refine⟨_,C1 (el:=194) (es:=2) rfl rfl rfl (by exact⟨_,_,_,rfl⟩),?_⟩
  |refine⟨_,E1 rfl (by exact rfl) (by exact⟨_,rfl⟩),?_⟩
  |refine And.intro (λ_=>⟨O,O,by show(16:Int)*_<=_;omega,O⟩) ?_
  |refine CA ?_|refine an ?_ ?_|(intro Z;try simp at Z))
 all_goals refine FB (Pp x a b) (λi=>b-i.1) ?_ ?_
 ·exact⟨⟨a,O,xD⟩,[],U,OA.nil UA ⟨rfl,rfl,rfl,U⟩ ⟨by simp[SD];rfl,by simp[SD];rfl,U⟩⟩
 rotate_left
 ·exact⟨⟨a,O,xD⟩,[(26,25)],U,OA.names [(26,25)] UA rfl rfl ⟨rfl,rfl,rfl,U⟩ ⟨by simp[SD];rfl,by simp[SD];rfl,U⟩⟩
 all_goals
  rintro⟨i,D,h2⟩
  intro F H Y hF hH hn;dsimp only[Pp]at hF hH hn;subst hF hH hn
  repeat' (first
   |refine tk ?_
   |refine⟨(by show(SD a i).length*2<=_;rw[cW];omega),Nat.le_of_ble_eq_true rfl,O,λ_=>(by intro s hs;have iB:s∈[I (i:Int),B true]:=hs;simp at iB;rcases iB with rfl|rfl<;>rfl),λ_=>(by have hl:=lZ a i;show((SD a i).length+1)*16<=140737488355328/\(SD a i).length+1<=maxLen;simp only[maxLen];omega),?_⟩
   |refine CA ?_|refine an ?_ ?_|(intro Z;try simp at Z))
  ·have e:(uC (SD a i)).take ((SD a i).length*2)++[I (i:Int),B true]=uC (SD a (i+1)):=by
    rw[P7 D,List.take_of_length_le (by rw[cW];omega)];simp[uC]
   exact⟨⟨i+1,O,O⟩,[(26,28)],show b- (i+1)<b-i by omega,OA.names [(26,28)] UA rfl rfl ⟨rfl,rfl,rfl,U⟩ ⟨(by have h:(SD a (i+1)).length=(SD a i).length+1:=(by rw[lZ,lZ];omega);show some (DA.st _)=some (DA.st (XB {x with ds:=SD a (i+1)} 15 16 17 18 19 20 21 22 23 24 28));simp only[XB,h]),dW rfl e,U⟩⟩
  ·have:i=b:=O
   subst this
   exact⟨[],OA.nil UA ⟨rfl,U⟩ ⟨rfl,dW rfl rfl,U⟩⟩
theorem R7 (x:IT) (n:Nat) (hn:n<=100000):
  Fn prog 102 [.p 0 23,I n] [(0,some (.st (kE x))),(23,some (.X 2 51 (iA x.ts)))] 26 (.jA []) [(0,some (.st (XB {x with ts:=[]} 15 16 17 18 19 20 21 22 26 24 25))),(26,some (.X 2 51 []))] 27:=by
 refine fm (KA 515) func102 λw W G g=> ?_
 refine Np 23 [] (iA x.ts) rfl ?_
 repeat' (first
  |refine tk ?_
  |refine And.intro (λ_=>⟨O,O,by show(16:Int)*_<=_;omega,O⟩) ?_
  |refine CA ?_|refine an ?_ ?_|(intro Z;try simp at Z))
 ·exact⟨[],OA.nil UA ⟨rfl,U⟩ ⟨rfl,rfl,U⟩⟩
 ·exact⟨[(26,23)],OA.names [(26,23)] UA rfl rfl ⟨rfl,U⟩ ⟨rfl,rfl,U⟩⟩
theorem mK (a b:Nat) (o n k:Nat):Fn prog 140 [.agg [.s 0 o n, .s 0 0 k]] [] 1 (I n) [] 1:=by
 refine fm (KA 7) func140 λw W G g=> ?_
 repeat' (first
  |refine tk ?_
  |refine CA ?_|refine an ?_ ?_|(intro Z;try simp at Z))
 exact DB rfl qA
theorem qR:∀(l:List Int) (n:Nat),(iA l).take (2*n)=iA (l.take n)
 |[],n=>by simp[xA]
 |x::r,0=>rfl
 |x::r,n+1=>by
  have:=qR r n
  rw[show 2*(n+1)=2*n+1+1 by omega]
  simp only[List.map_cons,xA,List.flatMap_cons,List.cons_append,List.nil_append,List.take_succ_cons]at this⊢
  rw[this]
theorem LU (l:List Int) (t:Int):iA (l++[t])=iA l++[I t,I 0]:=by simp[xA]
theorem S7 (x:IT) (t:Int) (h0:x.so=0) (hl:x.sl<=x.st.length) (hs:x.sl<=1000000):
  Fn prog 149 [.p 0 26,Tm t] [(0,some (.st (kE x))),(24,some (.X 2 51 (iA x.st)))] 26 (.jA []) [(0,some (.st (XB {x with st:=x.st.take x.sl++[t],sl:=x.sl+1} 15 16 17 18 19 20 21 22 23 26 25))),(26,some (.X 2 51 (iA (x.st.take x.sl++[t]))))] 27:=by
 obtain⟨y,m,d,hh,mi,s,wd,ly,lm,yl,dG,fy,yw,mm,mr,md,nd,XC,wn,nw,ea,ts,total,count,st,so,sl,fin,ds⟩:=x
 dsimp only at h0 hl hs
 subst h0
 have hL:(iA st).length=2*st.length:=by simp[iA,rC]
 refine fm (KA 11) func149 λw W G g=> ?_
 repeat' (first
  |refine tk ?_
  |refine⟨(by show sl*2<=(iA st).length;omega),Nat.le_of_ble_eq_true rfl,O,λ_=>(by intro s hs;have iB:s∈[I t,I 0]:=hs;simp at iB;rcases iB with rfl|rfl<;>rfl),λ_=>(by show(sl+1)*16<=140737488355328/\sl+1<=maxLen;simp only[maxLen];omega),?_⟩
  |refine CA ?_|refine an ?_ ?_|(intro Z;try simp at Z))
 have e:(iA st).take (sl*2)++[I t,I 0]=iA (st.take sl++[t]):=by
  rw[Nat.mul_comm,qR,LU]
 have gR:(st.take sl++[t]).length=sl+1:=by simp;omega
 refine⟨[(26,28)],OA.names [(26,28)] UA rfl rfl ⟨rfl,U⟩ ⟨?_,pB (d:=(st.take sl++[t]).toArray) rfl ?_,U⟩⟩
 ·show some (DA.st _)=some (DA.st (XB {y:=y,m:=m,d:=d,hh:=hh,mi:=mi,s:=s,wd:=wd,ly:=ly,lm:=lm,yl:=yl,dG:=dG,fy:=fy,yw:=yw,mm:=mm,mr:=mr,md:=md,nd:=nd,XC:=XC,wn:=wn,nw:=nw,ea:=ea,ts:=ts,total:=total,count:=count,st:=st.take sl++[t],so:=0,sl:=sl+1,fin:=fin,ds:=ds} 15 16 17 18 19 20 21 22 23 28 25))
  simp only[XB,gR]
 ·exact e
theorem T7 (zs:List Int) (i:Int) (h: -1000000<=i/\i<=1000000) (hz:zs.length<=1000000) (hp:0<=(if i<0 then i+zs.length else i)/\(if i<0 then i+zs.length else i)<zs.length):
  Fn prog 143 [.s 0 0 zs.length,I i] [(0,some (.ro (A zs)))] 1 (.jA [I (zs.getD (if i<0 then i+zs.length else i).toNat 0), .v .nilIface]) [] 1:=by
 refine fm (KA 524467) func143 λw W G g=> ?_
 repeat' (first
  |refine tk ?_
  |refine CA ?_|refine an ?_ ?_|(intro Z;try simp at Z))
 ·refine iF ?_ qA
  rw[if_pos (by assumption)];simp;rfl
 ·refine iF ?_ qA
  rw[if_neg O];simp;rfl
def U7:ByteArray:=⟨#[105,110,100,101,120,32,101,114,114,111,114]⟩
theorem V7 (zs:List Int) (i:Int) (h: -1000000<=i/\i<=1000000) (hz:zs.length<=1000000) (hp:¬(0<=(if i<0 then i+zs.length else i)/\(if i<0 then i+zs.length else i)<zs.length)):
  Fn prog 143 [.s 0 0 zs.length,I i] [(0,some (.ro (A zs)))] 1 (.jA [I 0, .gD 174 (.p 1 0)]) [(1,some (.st [.v (.string U7)]))] 2:=by
 refine fm (KA 524467) func143 λw W G g=> ?_
 repeat' (first
  |refine tk ?_
  |(refine AB 71 ?_;refine cA.F [] func71 rfl rfl (λ_=>Oe _) rfl rfl (λ_=>U) rfl rfl ?_)
  |refine CA ?_|refine an ?_ ?_|(intro Z;try simp at Z))
 ·exact⟨[],OA.nil UA ⟨rfl,U⟩ ⟨rfl,U⟩⟩
 ·exact absurd (by rw[if_pos (by assumption)];exact Z) hp
 ·exact⟨[],OA.nil UA ⟨rfl,U⟩ ⟨rfl,U⟩⟩
 ·exact absurd (by rw[if_neg O];exact Z) hp
theorem bD {LA:Nat->Nat} {H:HS} {b:Nat} {xs:List SV} {l:List Int} (h:WA H (LA b)=some (.X 2 51 xs)) (hx:xs=iA l):aE LA H b (.X 2 51 (iA l)):=by
 show WA H (LA b)=some (.X 2 51 (YA LA (iA l)))
 rw[h,hx,SC]
theorem QFA (x:IT) (h0:x.sl=0):
  Fn prog 104 [.p 0 26] [(0,some (.st (kE x))),(24,some (.X 2 51 (iA x.st)))] 26 (.jA [Tm 0,B false]) [(0,some (.st (kE x))),(24,some (.X 2 51 (iA x.st)))] 26:=by
 refine fm (KA 1073742349) func104 λw W G g=> ?_
 repeat' (first
  |refine tk ?_
  |refine CA ?_|refine an ?_ ?_|(intro Z;try simp at Z))
 ·exact⟨[],OA.nil UA ⟨rfl,U⟩ ⟨rfl,bD rfl rfl,U⟩⟩
 ·exact absurd h0 Z
theorem W7 (x:IT) (h0:0<x.sl) (D:x.so+x.sl<=x.st.length) (h2:x.st.length<=1000000):
  Fn prog 104 [.p 0 26] [(0,some (.st (kE x))),(24,some (.X 2 51 (iA x.st)))] 26 (.jA [Tm (x.st.getD x.so 0),B true]) [(0,some (.st (kE (if x.sl=1 then{x with so:=0,sl:=0}else{x with so:=x.so+1,sl:=x.sl-1})))),(24,some (.X 2 51 (iA x.st)))] 26:=by
 refine fm (KA 1073742349) func104 λw W G g=> ?_
 repeat' (first
  |refine tk ?_
  |(refine mF x.so O (by rw[List.length_map];omega) λrest=> ?_;rw[DQ O])
  |refine CA ?_|refine an ?_ ?_|(intro Z;try simp at Z))
 ·rw[if_pos O]
  refine⟨[],OA.nil UA ⟨rfl,U⟩ ⟨?_,bD rfl rfl,U⟩⟩
  show some (DA.st _)=some (DA.st (kE {x with so:=0,sl:=0}))
  rfl
 ·rw[if_neg O]
  refine⟨[],OA.nil UA ⟨rfl,U⟩ ⟨?_,bD rfl rfl,U⟩⟩
  have e1:((x.sl:Int)-1).toNat=x.sl-1:=O
  have e2:2*x.so+1*2=2*(x.so+1):=O
  show some (DA.st _)=some (DA.st (kE {x with so:=x.so+1,sl:=x.sl-1}))
  simp only[XB]
  simp[e1,e2]
theorem eF {LA:Nat->Nat} {F F':FS} (h:QK LA F F':=by repeat' (first|exact trivial|refine And.intro rfl ?_|refine And.intro (bB O) ?_)):QK LA F F':=h
theorem eH {LA:Nat->Nat} {H H':HS} (h:lC LA H H':=by repeat' (first|exact trivial|refine And.intro (gA rfl rfl) ?_|refine And.intro (TB rfl (by first|rfl|(simp[DA.cells];done)|(simp[DA.cells];rfl))) ?_|refine And.intro (bD rfl rfl) ?_|refine And.intro (dW rfl rfl) ?_|refine And.intro rfl ?_|refine And.intro (by simp only[XB,aK];rfl) ?_)):lC LA H H':=h
theorem eN {C:Cx} {F:FS} {H:HS} {Y:Nat} {F':FS} {H':HS} {n':Nat} (hf:QK (sig [] n' Y) F F') (hh:lC (sig [] n' Y) H H') (hn:C.n0<=n':=by exact UA):OA C [] F H Y F' H' n':=OA.nil hn hf hh
theorem eL {C:Cx} {F:FS} {H:HS} {Y:Nat} {F':FS} {H':HS} {n':Nat} (l:List (Nat×Nat)) (hf:QK (sig l n' Y) F F') (hh:lC (sig l n' Y) H H') (hn:C.n0<=n':=by exact UA) (hl:(l.all λx=>Nat.ble C.n0 x.1)=true:=by rfl)
  (hj:(H'.all λx=> !KE x.2||H'.all λy=>Nat.beq x.1 y.1|| !(Nat.beq (sig l n' Y x.1) (sig l n' Y y.1)))=true:=by rfl):OA C l F H Y F' H' n':=OA.names l hn hl hj hf hh
structure Stop (P:Prop):Prop where
 ok:P
theorem EQ (k:Nat) {C:Cx} {x:Code} {F:FS} {H:HS} {Y:Nat} {Q:QT} (h:Stop (T C (.block k x) F H Y Q)):T C (.block k x) F H Y Q:=h.ok
theorem fW (k:Nat) {C:Cx} {l:List Oper} {b:Bool} {F:FS} {H:HS} {Y:Nat} {Q:QT} (h:Stop (T C (.region k (List.toArray l) b) F H Y Q)):T C (.region k (List.toArray l) b) F H Y Q:=h.ok
theorem X7 {C:Cx} {x y:Code} {F:FS} {H:HS} {Y:Nat} {F':FS} {H':HS} {n':Nat} {F2:FS} {H2:HS} {n2:Nat} {Q:QT} {l:List (Nat×Nat)} (h:T C x F' H' n' (yE C F2 H2 n2 Q)) (he:OA C l F H Y F' H' n') (hr:T C y F2 H2 n2 Q):T C (.seq x y) F H Y Q:=
 pC F2 H2 n2 (mB he h) hr
theorem FQ {C:Cx} {x y:Code} {k:Nat} {F:FS} {H:HS} {Y:Nat} {F':FS} {H':HS} {n':Nat} {F2:FS} {H2:HS} {n2:Nat} {Q:QT} {l:List (Nat×Nat)} (h:T C x F' H' n' (yE C F2 H2 n2 (UT k (rL C y Q)))) (he:OA C l F H Y F' H' n') (hr:T C y F2 H2 n2 Q):T C x F H Y (UT k (rL C y Q)):=
 mB he (ZO h λe F H Y hq=>by
  cases e<;>first|exact hq|(obtain⟨l,hl⟩:=hq;exact mB hl hr))
theorem FM (a b:Bool):(if a=true then true else b)=(a||b):=by cases a<;>rfl
theorem gW (a b:Bool):(if a=true then b else false)=(a&&b):=by cases a<;>rfl
theorem AD {C:Cx} {t:Nat} {x y:Code} {F:FS} {H:HS} {Y:Nat} {Q:QT} (v:Bool) {b:Bool} (hl:lk F t=some (.u (.v (.bool b)))) (e:b=v) (h:(v=true->T C x F H Y Q)/\(v=false->T C y F H Y Q)):T C (.cond (.tmp t) x y) F H Y Q:=by
 subst e
 refine⟨λG a w hf=> ?_⟩
 obtain⟨D,h2⟩:=hf.ms.gC t _ hl
 simp only[IH,aA]at h2
 exact wp_cond_split h2 (λZ=>(h.1 Z).ok G a w hf) (λZ=>(h.2 Z).ok G a w hf)
theorem cT {C:Cx} (t:Nat) {x y:Code} {F:FS} {H:HS} {Y:Nat} {Q:QT} {b:Bool} (hl:lk F t=some (.u (.v (.bool b)))) (e:b=true) (h:T C x F H Y Q):T C (.cond (.tmp t) x y) F H Y Q:=AD true hl e ⟨λ_=>h,λh=>(by cases h)⟩
theorem cF {C:Cx} (t:Nat) {x y:Code} {F:FS} {H:HS} {Y:Nat} {Q:QT} {b:Bool} (hl:lk F t=some (.u (.v (.bool b)))) (e:b=false) (h:T C y F H Y Q):T C (.cond (.tmp t) x y) F H Y Q:=AD false hl e ⟨λh=>(by cases h),λ_=>h⟩
theorem HD {C:Cx} {F:FS} {H:HS} {Y:Nat} {Q:QT} (h:Stop (T C .ret F H Y Q)):T C .ret F H Y Q:=h.ok
theorem wY {l m:Int} (h:1<=m) (h':m<=13):(AG l).getD (0+(m-1).toNat*1) 0=GB l m:=by
 have e:0+(m-1).toNat*1=(m-1).toNat:=O
 rw[e,List.getD_eq_getElem?_getD,List.getElem?_eq_getElem (by simp[AG];omega)]
 simp[AG];congr 1;omega
theorem Qp {l m:Int} (h:1<=m) (h':m<=12):(AG l).getD (0+m.toNat*1) 0=GB l (m+1):=by
 have:=wY (l:=l) (m:=m+1) O O
 rwa [show m+1-1=m by omega]at this
theorem Rp {y m d:Int} (hy:1<=y/\y<=15000) (hm:1<=m/\m<=12) (hd:1<=d/\d<=1000):0<=KD y m d/\KD y m d<=6000000:=by
 rw[XK hm]
 have D:=wV (y:=y) O
 have h2:=tB y
 have h3:=bG (l:=lp y) (m:=m) h2
 unfold NA
 unfold before at*
 omega
theorem Y7 (x:IT) (y m d:Int):Fn prog 141 [.p 0 7,I 0,I y,I m,I d] [(0,some (.ro (kE x)))] 26 (.jA [I 0,I x.yl]) [] 26:=by
 refine fm (KA bY) func141 λw W G g=> ?_
 repeat' (first
  |refine tk ?_
  |refine CA ?_|refine an ?_ ?_|(intro Z;try simp at Z))
 exact iF rfl qA
theorem Z7 (x:IT) (l:Int) (hx:x.mr=AG l) (y m d:Int) (hm:1<=m/\m<=12):Fn prog 141 [.p 0 7,I 1,I y,I m,I d] [(0,some (.ro (kE x))),(16,some (.ro (A x.mr)))] 26 (.jA [I (GB l m),I (GB l (m+1))]) [] 26:=by
 have e1:x.mr.getD (0+(m-1).toNat*1) 0=GB l m:=by rw[hx];exact wY hm.1 O
 have e2:x.mr.getD (0+m.toNat*1) 0=GB l (m+1):=by rw[hx];exact Qp hm.1 O
 have hL:x.mr.length=13:=by rw[hx];simp[AG]
 refine fm (KA bY) func141 λw W G g=> ?_
 repeat' (first
  |refine tk ?_
  |refine CA ?_|refine an ?_ ?_|(intro Z;try simp at Z))
 all_goals try(refine iF ?_ qA)
 all_goals rw[e1,e2]
 all_goals rfl
theorem mZ (x:IT) (f y m d:Int) (hf:3<=f/\f<=6) (hy:1<=y/\y<=15000) (hm:1<=m/\m<=12) (hd:1<=d/\d<=1000):Fn prog 141 [.p 0 7,I f,I y,I m,I d] [(0,some (.ro (kE x)))] 26 (.jA [I (idxOf (KD y m d)),I (idxOf (KD y m d)+1)]) [] 26:=by
 have e:(KD y m d*86400+0*3600+0*60+0)/86400=KD y m d:=O
 have hr:=Rp hy hm (d:=d) O
 have kP:=Ke (KD y m d*86400+0*3600+0*60+0) 0 O
 rw[e]at kP
 have jE:=qJ (KD y m d)
 have fO:=tB (oA (KD y m d))
 refine fm (KA bY) func141 λw W G g=> ?_
 repeat' (first
  |refine tk ?_
  |refine cz 69 func69 (λ_=>GU) ?_
  |refine cz 80 func80 (λ_=>EN _ _ _ _ _ _ O O O O O O) ?_
  |refine cz 101 func101 (λ_=>kP) ?_
  |refine CA ?_|refine an ?_ ?_|(intro Z;try simp at Z))
 refine iF ?_ qA
 show SV.jA [I _,I _]=SV.jA [I _,I _]
 rw[Int.add_sub_cancel]
theorem VL (yw:Nat) (i wk:Int):1<=CG yw i wk/\CG yw i wk<=7:=by unfold CG sM;omega
theorem ke {yw:Nat} {i wk:Int} (hw:0<=wk/\wk<=6) {k:Nat} (h:1<=k) (h':k<=CG yw i wk):((yw+i+k)%7=wk↔k=CG yw i wk):=by
 unfold CG sM at*;omega
def Sp (x:IT) (r:RR) (len:Int) (i0:Int) (n:Nat):MB {j:Nat//j+1<=n}where
 F j:=[(0, .u (.p 0 7)),(10, .u (I i0)),(11, .u (I (i0+j.1+1))),(12, .u (I (i0+j.1))),(13, .u (I j.1))]
 H j:=[(0,some (.ro (kE x))),(1,some (.ro (QE r len))),(19,some (.ro (A x.XC)))]
 n j:=26
theorem b7 (x:IT) (r:RR) (len:Int) (hx:x.XC=JF 55) (hw:x.yw<=6) (hk:0<=r.wk/\r.wk<=6) (y m d:Int) (hy:1<=y/\y<=15000) (hm:1<=m/\m<=12) (hd:1<=d/\d<=1000):
  Fn prog 141 [.p 0 7,I 2,I y,I m,I d] [(0,some (.ro (kE x))),(1,some (.ro (QE r len))),(19,some (.ro (A x.XC)))] 26 (.jA [I (idxOf (KD y m d)),I (idxOf (KD y m d)+CG x.yw (idxOf (KD y m d)) r.wk)]) [] 26:=by
 have e:(KD y m d*86400+0*3600+0*60+0)/86400=KD y m d:=O
 have hr:=Rp hy hm (d:=d) O
 have kP:=Ke (KD y m d*86400+0*3600+0*60+0) 0 O
 rw[e]at kP
 have jE:=qJ (KD y m d)
 have fO:=tB (oA (KD y m d))
 generalize idxOf (KD y m d)=i0 at*
 obtain⟨n,hn⟩:∃n,n=CG x.yw i0 r.wk:=⟨_,rfl⟩
 have j7:=VL x.yw i0 r.wk
 have PE:=λk=> @ke x.yw i0 r.wk hk k
 have hxl:x.XC.length=385:=by rw[hx];rfl
 rw[<-hn]at j7 PE⊢
 refine fm (KA bY) func141 λw W G g=> ?_
 repeat' (first
  |refine tk ?_
  |refine cz 69 func69 (λ_=>GU) ?_
  |refine cz 80 func80 (λ_=>EN _ _ _ _ _ _ O O O O O O) ?_
  |refine cz 101 func101 (λ_=>kP) ?_
  |refine CA ?_|refine an ?_ ?_|(intro Z;try simp at Z))
 refine FB (Sp x r len i0 n) (λj=>n-j.1) ?_ ?_
 ·exact⟨⟨0,O⟩,[],U,OA.nil UA ⟨rfl,bB (show i0+1-1=i0 by omega),bB (show i0+1-1+1=i0+((0:Nat):Int)+1 by omega),bB (show i0+1-1=i0+((0:Nat):Int)by omega),rfl,U⟩ ⟨TB rfl (by simp[DA.cells];rfl),TB rfl (by simp[DA.cells];rfl),HA,U⟩⟩
 ·rintro⟨j,hj⟩
  intro F H Y hF hH hn;dsimp only[Sp]at hF hH hn;subst hF hH hn
  have hv:x.XC[x.yw+(i0+j+1).toNat]?.getD 0=(x.yw+i0+((j+1:Nat):Int))%7:=by
   rw[hx,<-List.getD_eq_getElem?_getD,zc O];congr 1;omega
  have vB:=PE (j+1) O hj
  repeat' (first
   |refine tk ?_
   |refine CA ?_|refine an ?_ ?_|(intro Z;try simp at Z))
  ·rw[hv,vB]at Z
   refine iF ?_ qA
   show SV.jA [I _,I _]=SV.jA [I _,I _]
   rw[show i0+(n:Int)=i0+j+1 by omega]
  ·rw[hv,vB]at Z
   exact⟨⟨j+1,O⟩,[],show n- (j+1)<n-j by omega,OA.nil UA ⟨rfl,rfl,bB (show i0+j+1+1=i0+((j+1:Nat):Int)+1 by omega),bB (show i0+j+1=i0+((j+1:Nat):Int)by omega),rfl,U⟩ ⟨TB rfl (by simp[DA.cells];rfl),TB rfl (by simp[DA.cells];rfl),HA,U⟩⟩
  ·omega
theorem iW {h mi s:Int} (hh:0<=h/\h<=1000) (hm:0<=mi/\mi<=1000) (hs:0<=s/\s<=1000):Fn prog 80 [I 1,I 1,I 1,I h,I mi,I s,I 0, .agg []] [] 0 (Tm (h*3600+mi*60+s)) [] 0:=by
 have e:=EN 1 1 1 h mi s O O O O O O
 rwa [show KD 1 1 1*86400+h*3600+mi*60+s=h*3600+mi*60+s by rw[show KD 1 1 1=0 from rfl];omega]at e
abbrev DJ (x:IT) (l:List Int):List SV:=XB {x with ts:=l} 15 16 17 18 19 20 21 22 26 24 25
theorem Tp {x:IT} {l l':List Int} (h:l.length=l'.length):DJ x l=DJ x l':=by simp only[XB,h]
theorem call102 {C:Cx} {H:HS} {c0:Bool} {k:QD->Prop} {fn:Func} (x:IT) (n:Nat) (hn:n<=100000) (hf:prog.funcs[102]? =some fn) (hP:C.P=prog) (Z:fn.body.isNone=false) (h0:WA H 0=some (.st (kE x))) (D:WA H 23=some (.X 2 51 (iA x.ts)))
  (hk:k ⟨.jA [],[(0,some (.st (DJ x []))),(23,none),(26,some (.X 2 51 []))],28,List.range 26⟩):cA C 102 [.p 0 23,I n] H 26 c0 k:=
 cA.F (List.range 26) hf hP Z (λ_=>R7 x n hn) rfl rfl (λ_=>⟨h0,by show _=some (DA.X 2 51 (YA _ (iA x.ts)));rw[SC];exact D,U⟩) (s:= .jA []) rfl (wh:=[(0,some (.st (DJ x []))),(23,none),(26,some (.X 2 51 []))]) rfl hk
theorem Up (x:IT) (r:RR) (len:Int) (h mi s:Int) (hh:0<=h/\h<=23) (hm:0<=mi/\mi<=59) (hs:0<=s/\s<=59):
  Fn prog 50 [.p 0 7, .p 0 23,I 6,I h,I mi,I s] [(0,some (.st (kE x))),(1,some (.ro (QE r len))),(23,some (.X 2 51 (iA x.ts)))] 26 (.jA []) [(0,some (.st (DJ x [h*3600+mi*60+s]))),(26,some (.X 2 51 (iA [h*3600+mi*60+s])))] 27:=by
 have CH:=iW (h:=h) (mi:=mi) (s:=s) O O O
 refine fm (KA Rc) func50 λw W G g=> ?_
 repeat' (first
  |refine tk ?_
  |refine⟨(by dsimp only;simp[rC];try omega),Nat.le_of_ble_eq_true rfl,O,λ_=>(by intro sv YC;have iB:sv∈[I (h*3600+mi*60+s),I 0]:=YC;simp at iB;rcases iB with rfl|rfl<;>rfl),λ_=>(by show(_+1)*16<=140737488355328/\_+1<=maxLen;dsimp only[maxLen];simp;try omega),?_⟩
  |(refine AB 102 ?_;refine call102 x 1 O rfl rfl rfl rfl rfl ?_)
  |refine cz 81 func81 (λ_=>sN _ _) ?_
  |refine cz 80 func80 (λ_=>CH) ?_
  |refine CA ?_|refine an ?_ ?_|(intro Z;try simp at Z))
 exact⟨[(26,29)],OA.names [(26,29)] UA rfl rfl ⟨rfl,U⟩ ⟨rfl,bD rfl rfl,U⟩⟩
theorem me {b:Int} {l:List Int} {j:Nat} (h:j<l.length):oD b (l.take (j+1))=oD b (l.take j)++[b+l.getD j 0]:=by
 unfold oD
 rw[List.take_succ_eq_append_getElem h,List.map_append,List.getD_eq_getElem?_getD,List.getElem?_eq_getElem h];rfl
theorem jW (b:Int) (l:List Int):(oD b l).length=l.length:=by simp[oD]
def Vp (x:IT) (r:RR) (len h mi:Int):MB {j:Nat//j<=r.bs.length}where
 F j:=[(0, .u (.p 0 7)),(1, .u (.p 0 23)),(3, .u (I h)),(4, .u (I mi)),(110, .u (.s 12 0 r.bs.length)),(111, .u (I r.bs.length)),(112, .u (I j.1))]
 H j:=[(0,some (.st (DJ x (oD (h*3600+mi*60) (r.bs.take j.1))))),(1,some (.ro (QE r len))),(12,some (.ro (A r.bs))),(26,some (.X 2 51 (iA (oD (h*3600+mi*60) (r.bs.take j.1)))))]
 n j:=27
theorem Wp (x:IT) (r:RR) (len:Int) (h mi s:Int) (hh:0<=h/\h<=23) (hm:0<=mi/\mi<=59) (hs:∀s∈r.bs,0<=s/\s<=59) (hl:r.bs.length<=60):
  Fn prog 50 [.p 0 7, .p 0 23,I 5,I h,I mi,I s] [(0,some (.st (kE x))),(1,some (.ro (QE r len))),(12,some (.ro (A r.bs))),(23,some (.X 2 51 (iA x.ts)))] 26 (.jA [])
   [(0,some (.st (DJ x (YE (oD (h*3600+mi*60) r.bs))))),(26,some (.X 2 51 (iA (YE (oD (h*3600+mi*60) r.bs)))))] 27:=by
 refine fm (KA Rc) func50 λw W G g=> ?_
 repeat' (first
  |refine tk ?_
  |(refine AB 102 ?_;refine call102 x r.bs.length O rfl rfl rfl rfl rfl ?_)
  |refine CA ?_|refine an ?_ ?_|(intro Z;try simp at Z))
 refine FB (Vp x r len h mi) (λj=>r.bs.length-j.1) ?_ ?_
 ·exact⟨⟨0,O⟩,[],U,OA.nil UA ⟨rfl,rfl,rfl,rfl,rfl,rfl,rfl,U⟩ ⟨rfl,TB rfl (by simp[DA.cells];rfl),HA,rfl,U⟩⟩
 ·rintro⟨j,hj⟩
  intro F H Y hF hH hn;dsimp only[Vp]at hF hH hn;subst hF hH hn
  have ej:0+(j:Int).toNat*1=j:=O
  have CH:j<r.bs.length->Fn prog 80 [I 1,I 1,I 1,I h,I mi,I (r.bs.getD (0+(j:Int).toNat*1) 0),I 0, .agg []] [] 0 (Tm (h*3600+mi*60+r.bs.getD (0+(j:Int).toNat*1) 0)) [] 0:=λfA=>by
   rw[ej]
   have qH:r.bs.getD j 0∈r.bs:=by rw[List.getD_eq_getElem?_getD,List.getElem?_eq_getElem fA];exact List.getElem_mem fA
   have:=hs _ qH
   exact iW O O O
  have hz:=jW (h*3600+mi*60) (r.bs.take j)
  rw[List.length_take,Nat.min_eq_left hj]at hz
  repeat' (first
   |refine tk ?_
   |refine⟨(by dsimp only;simp[rC];try omega),Nat.le_of_ble_eq_true rfl,O,λ_=>(by intro sv YC;have iB:sv∈[I (h*3600+mi*60+r.bs.getD (0+(j:Int).toNat*1) 0),I 0]:=YC;simp at iB;rcases iB with rfl|rfl<;>rfl),λ_=>(by show(_+1)*16<=140737488355328/\_+1<=maxLen;dsimp only[maxLen];simp;try omega),?_⟩
   |refine cz 81 func81 (λ_=>sN _ _) ?_
   |refine cz 80 func80 (λ_=>CH O) ?_
   |refine CA ?_|refine an ?_ ?_|(intro Z;try simp at Z))
  ·have e:=me (b:=h*3600+mi*60) Z
   have e2:(iA (oD (h*3600+mi*60) (r.bs.take j))).take ((oD (h*3600+mi*60) (r.bs.take j)).length*2)++[I (h*3600+mi*60+r.bs.getD (0+(j:Int).toNat*1) 0),I 0]=iA (oD (h*3600+mi*60) (r.bs.take (j+1))):=by
    rw[Nat.mul_comm,qR,List.take_of_length_le qA,e,LU,ej]
   have e3:(oD (h*3600+mi*60) (r.bs.take (j+1))).length=(oD (h*3600+mi*60) (r.bs.take j)).length+1:=by rw[e];simp
   refine⟨⟨j+1,O⟩,[(26,28)],show r.bs.length- (j+1)<r.bs.length-j by omega,OA.names [(26,28)] UA rfl rfl ⟨rfl,rfl,rfl,rfl,rfl,rfl,rfl,U⟩ ⟨?_,TB rfl (by simp[DA.cells];rfl),HA,bD rfl e2,U⟩⟩
   show some (DA.st _)=some (DA.st (XB {x with ts:=oD (h*3600+mi*60) (r.bs.take (j+1))} 15 16 17 18 19 20 21 22 28 24 25))
   simp only[XB,e3]
  ·have ht:r.bs.take j=r.bs:=List.take_of_length_le Z
   rw[ht]at hz⊢
   repeat' (first
    |refine tk ?_
    |(refine AB 82 ?_;refine cA.T (d:=(oD (h*3600+mi*60) r.bs).toArray) (d':=(YE (oD (h*3600+mi*60) r.bs)).toArray) 26 func82 rfl rfl (λ_=>bW (oD (h*3600+mi*60) r.bs) rfl O) rfl rfl rfl (λ_=>rfl) ?_)
    |refine CA ?_|refine an ?_ ?_|(intro Z;try simp at Z))
   have e4:(YE (oD (h*3600+mi*60) r.bs)).length=(oD (h*3600+mi*60) r.bs).length:=List.length_mergeSort _
   refine⟨[],OA.nil UA ⟨rfl,U⟩ ⟨?_,bD rfl rfl,U⟩⟩
   show some (DA.st _)=some (DA.st (DJ x (YE (oD (h*3600+mi*60) r.bs))))
   rw[Tp e4]
theorem Xp {b:Int} {l ss:List Int} {j:Nat} (h:j<l.length):AF b (l.take (j+1)) ss=AF b (l.take j) ss++oD (b+l.getD j 0*60) ss:=by
 unfold AF
 rw[List.take_succ_eq_append_getElem h,List.flatMap_append,List.getD_eq_getElem?_getD,List.getElem?_eq_getElem h];simp
theorem kW (b:Int) (ss:List Int):∀l:List Int,(AF b l ss).length=l.length*ss.length
 |[]=>by simp[AF]
 |x::l=>by
  have:=kW b ss l
  unfold AF at this⊢
  rw[List.flatMap_cons,List.length_append,this,jW,List.length_cons,Nat.succ_mul];omega
def XI (r:RR) (h:Int) (i j:Nat):List Int:=AF (h*3600) (r.bi.take i) r.bs++oD (h*3600+r.bi.getD i 0*60) (r.bs.take j)
def Yp (x:IT) (r:RR) (len h:Int):MB {i:Nat//i<=r.bi.length}where
 F i:=[(0, .u (.p 0 7)),(1, .u (.p 0 23)),(3, .u (I h)),(48, .u (.s 11 0 r.bi.length)),(49, .u (I r.bi.length)),(50, .u (I i.1))]
 H i:=[(0,some (.st (DJ x (AF (h*3600) (r.bi.take i.1) r.bs)))),(1,some (.ro (QE r len))),(11,some (.ro (A r.bi))),(12,some (.ro (A r.bs))),(26,some (.X 2 51 (iA (AF (h*3600) (r.bi.take i.1) r.bs))))]
 n i:=27
def Zp (x:IT) (r:RR) (len h:Int) (i:Nat):MB {j:Nat//j<=r.bs.length}where
 F j:=[(0, .u (.p 0 7)),(1, .u (.p 0 23)),(3, .u (I h)),(13, .u (I (r.bi.getD i 0))),(48, .u (.s 11 0 r.bi.length)),(49, .u (I r.bi.length)),(50, .u (I i)),(60, .u (.s 12 0 r.bs.length)),(61, .u (I r.bs.length)),(62, .u (I j.1))]
 H j:=[(0,some (.st (DJ x (XI r h i j.1)))),(1,some (.ro (QE r len))),(11,some (.ro (A r.bi))),(12,some (.ro (A r.bs))),(26,some (.X 2 51 (iA (XI r h i j.1))))]
 n j:=27
theorem o7 {r:RR} {h:Int} {i j:Nat} (hj:j<r.bs.length):XI r h i (j+1)=XI r h i j++[h*3600+r.bi.getD i 0*60+r.bs.getD j 0]:=by
 unfold XI;rw[me hj,List.append_assoc]
theorem ap (r:RR) (h:Int) (i:Nat):XI r h i 0=AF (h*3600) (r.bi.take i) r.bs:=by simp[XI,oD]
theorem r7 {r:RR} {h:Int} {i:Nat} (hi:i<r.bi.length):XI r h i r.bs.length=AF (h*3600) (r.bi.take (i+1)) r.bs:=by
 unfold XI;rw[Xp hi,List.take_length]
theorem u7 {r:RR} {h:Int} {i j:Nat} (hi:i<=r.bi.length) (hj:j<=r.bs.length):(XI r h i j).length=i*r.bs.length+j:=by
 unfold XI;rw[List.length_append,kW,jW,List.length_take,List.length_take,Nat.min_eq_left hi,Nat.min_eq_left hj]
theorem bp (x:IT) (r:RR) (len:Int) (h mi s:Int) (hh:0<=h/\h<=23) (hm:∀m∈r.bi,0<=m/\m<=59) (hs:∀s∈r.bs,0<=s/\s<=59) (GQ:r.bi.length<=60) (pO:r.bs.length<=60) (hl:r.bi.length*r.bs.length<=200):
  Fn prog 50 [.p 0 7, .p 0 23,I 4,I h,I mi,I s] [(0,some (.st (kE x))),(1,some (.ro (QE r len))),(11,some (.ro (A r.bi))),(12,some (.ro (A r.bs))),(23,some (.X 2 51 (iA x.ts)))] 26 (.jA [])
   [(0,some (.st (DJ x (YE (AF (h*3600) r.bi r.bs))))),(26,some (.X 2 51 (iA (YE (AF (h*3600) r.bi r.bs)))))] 27:=by
 have vN:=kW (h*3600) r.bs r.bi
 refine fm (KA Rc) func50 λw W G g=> ?_
 repeat' (first
  |refine tk ?_
  |(refine AB 102 ?_;refine call102 x (r.bi.length*r.bs.length) O rfl rfl rfl rfl rfl ?_)
  |refine CA ?_|refine an ?_ ?_|(intro Z;try simp at Z))
 refine FB (Yp x r len h) (λi=>r.bi.length-i.1) ?_ ?_
 ·exact⟨⟨0,O⟩,[],U,OA.nil UA ⟨rfl,rfl,rfl,rfl,rfl,rfl,U⟩ ⟨rfl,TB rfl (by simp[DA.cells];rfl),HA,HA,rfl,U⟩⟩
 ·rintro⟨i,hi⟩
  intro F H Y hF hH hn;dsimp only[Yp]at hF hH hn;subst hF hH hn
  have ei:0+(i:Int).toNat*1=i:=O
  repeat' (first
   |refine tk ?_
   |refine CA ?_|refine an ?_ ?_|(intro Z;try simp at Z))
  ·have oe:i<r.bi.length:=Z
   refine FB (Zp x r len h i) (λj=>r.bs.length-j.1) ?_ ?_
   ·refine⟨⟨0,O⟩,[],U,OA.nil UA ⟨rfl,rfl,rfl,bB (show r.bi.getD (0+(i:Int).toNat*1) 0=r.bi.getD i 0 by rw[ei]),rfl,rfl,rfl,rfl,rfl,rfl,U⟩ ⟨?_,TB rfl (by simp[DA.cells];rfl),HA,HA,bD rfl (by rw[ap]),U⟩⟩
    show some (DA.st _)=some (DA.st (DJ x (XI r h i 0)))
    rw[ap]
   ·rintro⟨j,hj⟩
    intro F H Y hF hH hn;dsimp only[Zp]at hF hH hn;subst hF hH hn
    have ej:0+(j:Int).toNat*1=j:=O
    have qH:r.bi.getD i 0∈r.bi:=by rw[List.getD_eq_getElem?_getD,List.getElem?_eq_getElem Z];exact List.getElem_mem Z
    have DG:=hm _ qH
    have CH:j<r.bs.length->Fn prog 80 [I 1,I 1,I 1,I h,I (r.bi.getD i 0),I (r.bs.getD (0+(j:Int).toNat*1) 0),I 0, .agg []] [] 0 (Tm (h*3600+r.bi.getD i 0*60+r.bs.getD (0+(j:Int).toNat*1) 0)) [] 0:=λfA=>by
     rw[ej]
     have TT:r.bs.getD j 0∈r.bs:=by rw[List.getD_eq_getElem?_getD,List.getElem?_eq_getElem fA];exact List.getElem_mem fA
     have:=hs _ TT
     exact iW O O O
    have hz:=u7 (r:=r) (h:=h) hi hj
    have eZ:i*r.bs.length+r.bs.length<=r.bi.length*r.bs.length:=by rw[<-Nat.succ_mul];exact Nat.mul_le_mul_right _ Z
    repeat' (first
     |refine tk ?_
     |refine⟨(by dsimp only;simp[rC];try omega),Nat.le_of_ble_eq_true rfl,O,λ_=>(by intro sv YC;have iB:sv∈[I (h*3600+r.bi.getD i 0*60+r.bs.getD (0+(j:Int).toNat*1) 0),I 0]:=YC;simp at iB;rcases iB with rfl|rfl<;>rfl),λ_=>(by show(_+1)*16<=140737488355328/\_+1<=maxLen;dsimp only[maxLen];simp;try omega),?_⟩
     |refine cz 81 func81 (λ_=>sN _ _) ?_
     |refine cz 80 func80 (λ_=>CH O) ?_
     |refine CA ?_|refine an ?_ ?_|(intro Z;try simp at Z))
    ·have e:=o7 (r:=r) (h:=h) (i:=i) Z
     have e2:(iA (XI r h i j)).take ((XI r h i j).length*2)++[I (h*3600+r.bi.getD i 0*60+r.bs.getD (0+(j:Int).toNat*1) 0),I 0]=iA (XI r h i (j+1)):=by
      rw[Nat.mul_comm,qR,List.take_of_length_le qA,e,LU,ej]
     have e3:(XI r h i (j+1)).length=(XI r h i j).length+1:=by rw[e];simp
     refine⟨⟨j+1,O⟩,[(26,28)],show r.bs.length- (j+1)<r.bs.length-j by omega,OA.names [(26,28)] UA rfl rfl ⟨rfl,rfl,rfl,rfl,rfl,rfl,rfl,rfl,rfl,rfl,U⟩ ⟨?_,TB rfl (by simp[DA.cells];rfl),HA,HA,bD rfl e2,U⟩⟩
     show some (DA.st _)=some (DA.st (XB {x with ts:=XI r h i (j+1)} 15 16 17 18 19 20 21 22 28 24 25))
     simp only[XB,e3]
    ·have zO:j=r.bs.length:=O
     subst zO
     have e:=r7 (r:=r) (h:=h) oe
     refine⟨⟨i+1,O⟩,[],show r.bi.length- (i+1)<r.bi.length-i by omega,OA.nil UA ⟨rfl,rfl,rfl,rfl,rfl,rfl,U⟩ ⟨?_,TB rfl (by simp[DA.cells];rfl),HA,HA,bD rfl (by rw[e]),U⟩⟩
     show some (DA.st _)=some (DA.st (DJ x (AF (h*3600) (r.bi.take (i+1)) r.bs)))
     rw[<-e]
  ·have ht:r.bi.take i=r.bi:=List.take_of_length_le Z
   rw[ht]
   repeat' (first
    |refine tk ?_
    |(refine AB 82 ?_;refine cA.T (d:=(AF (h*3600) r.bi r.bs).toArray) (d':=(YE (AF (h*3600) r.bi r.bs)).toArray) 26 func82 rfl rfl (λ_=>bW (AF (h*3600) r.bi r.bs) rfl O) rfl rfl rfl (λ_=>rfl) ?_)
    |refine CA ?_|refine an ?_ ?_|(intro Z;try simp at Z))
   have e4:(YE (AF (h*3600) r.bi r.bs)).length=(AF (h*3600) r.bi r.bs).length:=List.length_mergeSort _
   refine⟨[],OA.nil UA ⟨rfl,U⟩ ⟨?_,bD rfl rfl,U⟩⟩
   show some (DA.st _)=some (DA.st (DJ x (YE (AF (h*3600) r.bi r.bs))))
   rw[Tp e4]
def ID (k:Nat):Code->Option Code
 | .seq (.region i o d) y=>bif Nat.beq i k then some (.seq (.region i o d) y)else ID k y
 | .seq x y=>match ID k x with|some c=>some c|none=>ID k y
 | .cond _ x y=>match ID k x with|some c=>some c|none=>ID k y
 | .block _ x=>ID k x
 | .loop x=>ID k x
 |_=>none
theorem jG:∀(ps:List Nat) (l:List Int),(OC l ps).length=l.length:=aK
theorem HQ (l:List Int) (ps:List Nat) (p:Nat):OC l (ps++[p])=(OC l ps).set p 1:=by simp[marks,List.foldl_append]
def lW (r:RR):HS:=[(3,some (.ro (A r.bm))),(7,some (.ro (A r.uB))),(9,some (.ro (xA r.vA))),(13,some (.ro (A r.be)))]
def pe (x:IT) (r:RR):HS:=[(26,some (.X 1 3 (A x.mm))),(27,some (.X 1 3 (A x.mr))),(28,some (.X 1 3 (A x.md))),(29,some (.X 1 3 (A x.nd))),(30,some (.X 1 3 (A x.XC))),(31,some (.X 1 3 (A x.wn))),(32,some (.X 1 3 (A x.nw)))]++lW r
def cp (x:IT) (r:RR) (len y m:Int):MB {i:Nat//i<=r.be.length}where
 F i:=[(0, .u (.p 0 7)),(1, .u (I y)),(2, .u (I m)),(35, .u (I (idxOf (wC y)))),(615, .u (.s 13 0 r.be.length)),(616, .u (I r.be.length)),(617, .u (I i.1))]
 H i:=[(0,some (.st (XB {x with ea:=OC (List.replicate (365+lp y+7).toNat 0) ((wJ r y).take i.1)} 26 27 28 29 30 31 32 33 23 24 25))),(1,some (.ro (QE r len))),(13,some (.ro (A r.be))),(33,some (.X 1 3 (A (OC (List.replicate (365+lp y+7).toNat 0) ((wJ r y).take i.1)))))]++pe x r
 n i:=34
theorem mW (n:Nat):cC (mE HR.zero (n*1))=A (List.replicate n 0):=by
 rw[Nat.mul_one]
 show cC (mE [.int .i64 0] n)=_
 rw[Gi];simp[cC,A]
theorem fp {w:World} {W:Nat->Prop} {G:wA} {g:GW w W} {Q:QT} (x:IT) (r:RR) (len y m:Int) (hy:1<=y/\y<=15000) (hx:x.yl=365+lp y) (rJ:r.be.length<=100) (Z:∀o∈r.be,-100<=o/\o<=100) (bV:0<=wC y/\wC y<=6000000) (he:∀o∈r.be,0<=idxOf (wC y)+o/\idxOf (wC y)+o<365+lp y+7):
  T (cx w W f48.ntmps (KA yF) 26 G g) ((f48.body.bind (ID 106)).getD .skip) [(0, .u (.p 0 7)),(1, .u (I y)),(2, .u (I m))]
   ([(0,some (.st (XB x 26 27 28 29 30 31 32 22 23 24 25))),(1,some (.ro (QE r len))),(13,some (.ro (A r.be))),(22,some (.X 1 3 (A x.ea)))]++pe x r) 33
   (yE (cx w W f48.ntmps (KA yF) 26 G g) [(0, .u (.p 0 7)),(1, .u (I y)),(2, .u (I m))]
    ([(0,some (.st (XB {x with ea:=nF r y x.ea} 26 27 28 29 30 31 32 33 23 24 25))),(33,some (.X 1 3 (A (nF r y x.ea))))]++pe x r) 34 Q):=by
 have LC:¬r.be=[]->¬r.be.length=0:=λh h'=>h (List.length_eq_zero_iff.1 h')
 have GQ:=tB y
 obtain⟨N,hN⟩:∃N:Nat,N=(365+lp y+7).toNat:=⟨_,rfl⟩
 have gp:=Ke (wC y*86400) 0 O
 rw[show wC y*86400/86400=wC y by omega]at gp
 have jp:=qJ (wC y)
 have hlr:=tB (oA (wC y))
 repeat' (first
  |refine tk ?_
  |refine And.intro (λ_=>⟨O,O,by show(8:Int)*_<=_;omega,O⟩) ?_
  |refine cz 100 func100 (λ_=>J6 y hy) ?_
  |refine cz 101 func101 (λ_=>gp) ?_
  |refine CA ?_|refine an ?_ ?_|(intro Z;try simp at Z))
 ·have e0:(x.yl+7).toNat=N:=O
  have er:cC (mE HR.zero ((x.yl+7).toNat*1))=A (List.replicate N 0):=by rw[e0];exact mW N
  refine FB (cp x r len y m) (λi=>r.be.length-i.1) ?_ ?_
  ·refine⟨⟨0,O⟩,[],U,OA.nil UA ⟨rfl,rfl,rfl,bB (show idxOf (wC y)+1-1=idxOf (wC y)by omega),rfl,rfl,rfl,U⟩ ⟨?_,TB rfl (by simp[DA.cells];rfl),HA,gA rfl (by rw[er,hN];rfl),eH⟩⟩
   show some (DA.st _)=some (DA.st (XB {x with ea:=List.replicate (365+lp y+7).toNat 0} 26 27 28 29 30 31 32 33 23 24 25))
   simp only[XB,List.length_replicate,<-hN,e0]
  ·rintro⟨i,hi⟩
   intro F H Y hF hH hn;dsimp only[cp]at hF hH hn;subst hF hH hn
   have hL:=jG ((wJ r y).take i) (List.replicate (365+lp y+7).toNat 0)
   rw[List.length_replicate]at hL
   have ei:0+(i:Int).toNat*1=i:=O
   have ho:i<r.be.length->(0<=idxOf (wC y)+r.be.getD (0+(i:Int).toNat*1) 0/\idxOf (wC y)+r.be.getD (0+(i:Int).toNat*1) 0<365+lp y+7):=λh=>by
    rw[ei]
    exact he _ (by rw[List.getD_eq_getElem?_getD,List.getElem?_eq_getElem h];exact List.getElem_mem h)
   repeat' (first
    |refine tk ?_
    |refine And.intro (λ_=>by have h:=ho (by assumption);dsimp only;omega) ?_
    |refine RH (by rw[hL];have h:=ho (by assumption);omega) ?_
    |refine CA ?_|refine an ?_ ?_|(intro Z;try simp at Z))
   ·have e1:(wJ r y).take (i+1)=(wJ r y).take i++[(idxOf (wC y)+r.be.getD i 0).toNat]:=by
     have h':i<(wJ r y).length:=by simp[wJ];exact Z
     rw[List.take_succ_eq_append_getElem h']
     simp[wJ,List.getD_eq_getElem?_getD,List.getElem?_eq_getElem Z]
    have e2:(OC (List.replicate (365+lp y+7).toNat 0) ((wJ r y).take i)).set (0+(idxOf (wC y)+r.be.getD (0+(i:Int).toNat*1) 0).toNat*1) 1=OC (List.replicate (365+lp y+7).toNat 0) ((wJ r y).take (i+1)):=by
     rw[e1,HQ,ei,Nat.zero_add,Nat.mul_one]
    refine⟨⟨i+1,O⟩,[],show r.be.length- (i+1)<r.be.length-i by omega,OA.nil UA ⟨rfl,rfl,rfl,rfl,rfl,rfl,rfl,U⟩ ⟨?_,TB rfl (by simp[DA.cells];rfl),HA,gA rfl (by rw[e2]),eH⟩⟩
    show some (DA.st _)=some (DA.st (XB {x with ea:=OC (List.replicate (365+lp y+7).toNat 0) ((wJ r y).take (i+1))} 26 27 28 29 30 31 32 33 23 24 25))
    simp only[XB,jG]
   ·have e:nF r y x.ea=OC (List.replicate (365+lp y+7).toNat 0) ((wJ r y).take i):=by
     unfold nF
     rw[if_neg (LC (by assumption)),List.take_of_length_le (by simp[wJ];omega)]
    rw[e]
    exact⟨[],OA.nil UA ⟨rfl,rfl,rfl,U⟩ ⟨rfl,eH⟩⟩
 ·have bE:r.be.length=0:=by simp[Z]
  have e:nF r y x.ea=x.ea:=by unfold nF;rw[if_pos bE]
  rw[e]
  exact⟨[(33,22)],OA.names _ UA rfl rfl ⟨rfl,rfl,rfl,U⟩ ⟨rfl,eH⟩⟩
theorem nZ {ds:List (Int×Int)} {o:Nat} {a b:Int} {k:List SV->Prop} (j:Nat) (ho:o=2*j) (hj:j<ds.length) (he:ds.getD j (0,0)=(a,b)) (hk:∀rest,k (I a::I b::rest)):IK (xA ds) o k:=
 mF j ho hj λrest=>by rw[he];exact hk rest
theorem MU {zs:List Int} {o:Nat} {c0:Bool} {k:SV->Prop} (hz:zs=JF 55) (h:o<385) (hk:k (I ((o:Int)%7))):AL (I 0) c0 (A zs) o k:=by
 subst hz
 exact xL (by simpa using h) (by rw[zc O];exact hk)
def zH (k:Nat):Code->Option Code
 | .seq x y=>match zH k x with|some c=>some c|none=>zH k y
 | .cond _ x y=>match zH k x with|some c=>some c|none=>zH k y
 | .block i x=>bif Nat.beq i k then some (.block i x)else zH k x
 | .loop x=>zH k x
 |_=>none
abbrev YI:=pI
abbrev GN:=pZ
abbrev ZF:=nQ
theorem np {yw:Nat} {f e:Int} {l:List (Int×Int)} {j:Nat} (h:j<l.length):ZF yw f e (l.take (j+1))=ZF yw f e (l.take j)++(if f<=GN yw f e (l.getD j (0,0))/\GN yw f e (l.getD j (0,0))<=e then[(GN yw f e (l.getD j (0,0))).toNat]else[]):=by
 unfold ZF nQ
 rw[List.take_succ_eq_append_getElem h,List.filterMap_append,List.getD_eq_getElem?_getD,List.getElem?_eq_getElem h]
 congr 1
 simp only[Option.getD_some,List.filterMap_cons,List.filterMap_nil]
 split<;>simp_all
def AP (x:IT) (r:RR):HS:=[(22,some (.X 1 3 (A x.ea))),(26,some (.X 1 3 (A x.mm))),(27,some (.X 1 3 (A x.mr))),(28,some (.X 1 3 (A x.md))),(29,some (.X 1 3 (A x.nd))),(30,some (.X 1 3 (A x.XC))),(31,some (.X 1 3 (A x.wn)))]++lW r
def NU (x:IT) (r:RR) (len:Int) (M:List Int):HS:=[(0,some (.st (XB {x with nw:=M} 26 27 28 29 30 31 32 22 23 24 25))),(1,some (.ro (QE r len))),(9,some (.ro (xA r.vA))),(32,some (.X 1 3 (A M)))]++AP x r
def nW (x:IT) (r:RR) (len y m:Int) (k n:Nat) (f e:Int) (M:List Int) (EJ:List SV):MB {j:Nat//j<=r.vA.length}where
 F j:=[(0, .u (.p 0 7)),(1, .u (I y)),(2, .u (I m)),(28, .u (I f)),(29, .u (I e)),(504, .u (.s 33 0 n)),(505, .u (I n)),(506, .u (I k)),(524, .u (.s 9 0 r.vA.length)),(525, .u (I r.vA.length)),(526, .u (I j.1))]
 H j:=[(33,some (.X 1 22 EJ))]++NU x r len (OC M (ZF x.yw f e (r.vA.take j.1)))
 n j:=34
theorem v7 {w:World} {W:Nat->Prop} {G:wA} {g:GW w W} {Q:QT} (x:IT) (r:RR) (len y m:Int) (k n:Nat) (f e:Int) (M:List Int) (EJ:List SV) (ZI:x.yw<=6) (KF:x.XC=JF 55) (hf:0<=f) (he:e<M.length) (hM:M.length<=400) (x7:f<=400/\0<=e) (rJ:r.vA.length<=100) (WL:∀LA H,WA H 33=some (.X 1 22 EJ)->LA 33=33->LA 27=27->aE LA H 33 (.X 1 22 EJ))
  (hB:∀p∈r.vA,0<=p.1/\p.1<=6/\-60<=p.2/\p.2<=60/\0<=YI f e p/\YI f e p<=378):
  T (cx w W f48.ntmps (KA yF) 26 G g) ((f48.body.bind (zH 12)).getD .skip) ((nW x r len y m k n f e M EJ).F ⟨0,Nat.zero_le _⟩) ((nW x r len y m k n f e M EJ).H ⟨0,Nat.zero_le _⟩) 34
   (yE (cx w W f48.ntmps (KA yF) 26 G g) [(0, .u (.p 0 7)),(1, .u (I y)),(2, .u (I m)),(504, .u (.s 33 0 n)),(505, .u (I n)),(506, .u (I k))] ([(33,some (.X 1 22 EJ))]++NU x r len (OC M (ZF x.yw f e r.vA))) 34 Q):=by
 dsimp only[nW]
 repeat' (first
  |refine tk ?_
  |refine CA ?_|refine an ?_ ?_|(intro Z;try simp at Z))
 refine FB (nW x r len y m k n f e M EJ) (λj=>r.vA.length-j.1) ?_ ?_
 ·exact⟨⟨0,Nat.zero_le _⟩,[],U,OA.nil UA ⟨rfl,rfl,rfl,rfl,rfl,rfl,rfl,rfl,rfl,rfl,rfl,U⟩ ⟨WL _ _ rfl rfl rfl,rfl,TB rfl (by simp[DA.cells];rfl),HA,gA rfl rfl,eH⟩⟩
 ·rintro⟨j,hj⟩
  intro F H Y hF hH hn;dsimp only[nW]at hF hH hn;subst hF hH hn
  have nK:=jG (ZF x.yw f e (r.vA.take j)) M
  have sR:x.XC.length=385:=by rw[KF];rfl
  rcases Nat.lt_or_ge j r.vA.length with fA|IF
  ·have LI:r.vA.getD j (0,0)∈r.vA:=by rw[List.getD_eq_getElem?_getD,List.getElem?_eq_getElem fA];exact List.getElem_mem fA
   have hp:=hB _ LI
   have hq:=np (yw:=x.yw) (f:=f) (e:=e) fA
   obtain⟨⟨p1,p2⟩,qO⟩:∃p,r.vA.getD j (0,0)=p:=⟨_,rfl⟩
   rw[qO]at hp hq
   dsimp only at hp
   by_cases hn:p2<0
   ·have DH:YI f e (p1,p2)=(e+(p2+1)*7):=if_pos hn
    have vN:GN x.yw f e (p1,p2)=(e+(p2+1)*7)- ((((x.yw+(e+(p2+1)*7).toNat*1:Nat)):Int)%7-p1)%7:=by
     have h0:GN x.yw f e (p1,p2)=YI f e (p1,p2)- ((x.yw+YI f e (p1,p2))%7-p1)%7:=if_pos hn
     rw[h0,DH];rw[DH]at hp;omega
    rw[DH]at hp
    rw[vN]at hq
    repeat' (first
     |refine tk ?_
     |refine nZ j O O qO λrest=> ?_
     |refine And.intro (λZ=> ?_) UD
     |refine And.intro UD (λZ=> ?_)
     |refine And.intro (λ_=>by dsimp only;omega) ?_
     |refine MU KF (by dsimp only;omega) ?_
     |refine cz 98 func98 (λ_=>IU _ _ O O) ?_
     |refine RH (by rw[nK];dsimp only;omega) ?_
     |refine CA ?_|refine an ?_ ?_|(intro Z;try simp at Z))
    ·have CK:f<=(e+(p2+1)*7)- ((((x.yw+(e+(p2+1)*7).toNat*1:Nat)):Int)%7-p1)%7/\(e+(p2+1)*7)- ((((x.yw+(e+(p2+1)*7).toNat*1:Nat)):Int)%7-p1)%7<=e:=O
     rw[if_pos CK]at hq
     have e2:(OC M (ZF x.yw f e (r.vA.take j))).set (0+((e+(p2+1)*7)- ((((x.yw+(e+(p2+1)*7).toNat*1:Nat)):Int)%7-p1)%7).toNat*1) 1=OC M (ZF x.yw f e (r.vA.take (j+1))):=by
      rw[hq,HQ,Nat.zero_add,Nat.mul_one]
     refine⟨⟨j+1,O⟩,[],show r.vA.length- (j+1)<r.vA.length-j by omega,OA.nil UA ⟨rfl,rfl,rfl,rfl,rfl,rfl,rfl,rfl,rfl,rfl,rfl,U⟩ ⟨WL _ _ rfl rfl rfl,?_,TB rfl (by simp[DA.cells];rfl),HA,gA rfl (by rw[e2]),eH⟩⟩
     show some (DA.st _)=some (DA.st (XB {x with nw:=OC M (ZF x.yw f e (r.vA.take (j+1)))} 26 27 28 29 30 31 32 22 23 24 25))
     simp only[XB,jG]
    ·have CK:¬(f<=(e+(p2+1)*7)- ((((x.yw+(e+(p2+1)*7).toNat*1:Nat)):Int)%7-p1)%7/\(e+(p2+1)*7)- ((((x.yw+(e+(p2+1)*7).toNat*1:Nat)):Int)%7-p1)%7<=e):=O
     rw[if_neg CK,List.append_nil]at hq
     refine⟨⟨j+1,O⟩,[],show r.vA.length- (j+1)<r.vA.length-j by omega,OA.nil UA ⟨rfl,rfl,rfl,rfl,rfl,rfl,rfl,rfl,rfl,rfl,rfl,U⟩ ⟨WL _ _ rfl rfl rfl,?_,TB rfl (by simp[DA.cells];rfl),HA,gA rfl (by rw[hq]),eH⟩⟩
     show some (DA.st _)=some (DA.st (XB {x with nw:=OC M (ZF x.yw f e (r.vA.take (j+1)))} 26 27 28 29 30 31 32 22 23 24 25))
     simp only[XB,jG]
   ·have DH:YI f e (p1,p2)=(f+(p2-1)*7):=if_neg hn
    have vN:GN x.yw f e (p1,p2)=(f+(p2-1)*7)+(7- (((x.yw+(f+(p2-1)*7).toNat*1:Nat)):Int)%7+p1)%7:=by
     have h0:GN x.yw f e (p1,p2)=YI f e (p1,p2)+(7- (x.yw+YI f e (p1,p2))%7+p1)%7:=if_neg hn
     rw[h0,DH];rw[DH]at hp;omega
    rw[DH]at hp
    rw[vN]at hq
    repeat' (first
     |refine tk ?_
     |refine nZ j O O qO λrest=> ?_
     |refine And.intro (λZ=> ?_) UD
     |refine And.intro UD (λZ=> ?_)
     |refine And.intro (λ_=>by dsimp only;omega) ?_
     |refine MU KF (by dsimp only;omega) ?_
     |refine cz 98 func98 (λ_=>IU _ _ O O) ?_
     |refine RH (by rw[nK];dsimp only;omega) ?_
     |refine CA ?_|refine an ?_ ?_|(intro Z;try simp at Z))
    ·have CK:f<=(f+(p2-1)*7)+(7- (((x.yw+(f+(p2-1)*7).toNat*1:Nat)):Int)%7+p1)%7/\(f+(p2-1)*7)+(7- (((x.yw+(f+(p2-1)*7).toNat*1:Nat)):Int)%7+p1)%7<=e:=O
     rw[if_pos CK]at hq
     have e2:(OC M (ZF x.yw f e (r.vA.take j))).set (0+((f+(p2-1)*7)+(7- (((x.yw+(f+(p2-1)*7).toNat*1:Nat)):Int)%7+p1)%7).toNat*1) 1=OC M (ZF x.yw f e (r.vA.take (j+1))):=by
      rw[hq,HQ,Nat.zero_add,Nat.mul_one]
     refine⟨⟨j+1,O⟩,[],show r.vA.length- (j+1)<r.vA.length-j by omega,OA.nil UA ⟨rfl,rfl,rfl,rfl,rfl,rfl,rfl,rfl,rfl,rfl,rfl,U⟩ ⟨WL _ _ rfl rfl rfl,?_,TB rfl (by simp[DA.cells];rfl),HA,gA rfl (by rw[e2]),eH⟩⟩
     show some (DA.st _)=some (DA.st (XB {x with nw:=OC M (ZF x.yw f e (r.vA.take (j+1)))} 26 27 28 29 30 31 32 22 23 24 25))
     simp only[XB,jG]
    ·have CK:¬(f<=(f+(p2-1)*7)+(7- (((x.yw+(f+(p2-1)*7).toNat*1:Nat)):Int)%7+p1)%7/\(f+(p2-1)*7)+(7- (((x.yw+(f+(p2-1)*7).toNat*1:Nat)):Int)%7+p1)%7<=e):=O
     rw[if_neg CK,List.append_nil]at hq
     refine⟨⟨j+1,O⟩,[],show r.vA.length- (j+1)<r.vA.length-j by omega,OA.nil UA ⟨rfl,rfl,rfl,rfl,rfl,rfl,rfl,rfl,rfl,rfl,rfl,U⟩ ⟨WL _ _ rfl rfl rfl,?_,TB rfl (by simp[DA.cells];rfl),HA,gA rfl (by rw[hq]),eH⟩⟩
     show some (DA.st _)=some (DA.st (XB {x with nw:=OC M (ZF x.yw f e (r.vA.take (j+1)))} 26 27 28 29 30 31 32 22 23 24 25))
     simp only[XB,jG]
  ·have zO:r.vA.take j=r.vA:=List.take_of_length_le IF
   rw[zO]
   repeat' (first
    |refine tk ?_
    |refine And.intro UD (λZ=> ?_)
    |refine CA ?_|refine an ?_ ?_|(intro Z;try simp at Z))
   exact⟨[],OA.nil UA ⟨rfl,rfl,rfl,rfl,rfl,rfl,U⟩ ⟨WL _ _ rfl rfl rfl,rfl,TB rfl (by simp[DA.cells];rfl),HA,gA rfl rfl,eH⟩⟩
abbrev BF:=run
theorem re (i:Int) (k:Nat):BF i (k+1)=BF i k++[(i+k).toNat]:=by simp[run,List.range_succ]
def se (x:IT) (r:RR):HS:=[(21,some (.X 1 3 (A x.nw))),(22,some (.X 1 3 (A x.ea))),(26,some (.X 1 3 (A x.mm))),(27,some (.X 1 3 (A x.mr))),(28,some (.X 1 3 (A x.md))),(29,some (.X 1 3 (A x.nd))),(30,some (.X 1 3 (A x.XC)))]++lW r
def oK (x:IT) (r:RR) (len:Int) (M:List Int):HS:=[(0,some (.st (XB {x with wn:=M} 26 27 28 29 30 31 21 22 23 24 25))),(1,some (.ro (QE r len))),(7,some (.ro (A r.uB))),(31,some (.X 1 3 (A M)))]++se x r
def oW (x:IT) (r:RR) (len y m fw n1 nw:Int) (i:Nat) (n:Int) (i0:Int) (k:Nat) (M:List Int):MB {j:Nat//j+1<=k}where
 F j:=[(0, .u (.p 0 7)),(1, .u (I y)),(2, .u (I m)),(6, .u (I fw)),(7, .u (I n1)),(11, .u (I nw)),(13, .u (I n)),(202, .u (.s 7 0 r.uB.length)),(203, .u (I r.uB.length)),(204, .u (I i)),(14, .u (I (i0+j.1))),(15, .u (I j.1))]
 H j:=oK x r len (OC M (BF i0 j.1))
 n j:=32
theorem A8 {w:World} {W:Nat->Prop} {G:wA} {g:GW w W} {Q:QT} (x:IT) (r:RR) (len y m fw n1 nw:Int) (i:Nat) (n:Int) (i0:Int) (k:Nat) (hk:k=CG x.yw i0 r.wk) (oE:0<=r.wk/\r.wk<=6) (M:List Int) (ZI:x.yw<=6) (KF:x.XC=JF 55) (h0:0<=i0) (D:i0+k<=M.length) (hM:M.length<=378):
  T (cx w W f48.ntmps (KA yF) 26 G g) ((f48.body.bind (zH 2)).getD .skip) ((oW x r len y m fw n1 nw i n i0 k M).F ⟨0,by rw[hk];exact(VL _ _ _).1⟩) ((oW x r len y m fw n1 nw i n i0 k M).H ⟨0,by rw[hk];exact(VL _ _ _).1⟩) 32
   (yE (cx w W f48.ntmps (KA yF) 26 G g) [(0, .u (.p 0 7)),(1, .u (I y)),(2, .u (I m)),(6, .u (I fw)),(7, .u (I n1)),(11, .u (I nw)),(13, .u (I n)),(202, .u (.s 7 0 r.uB.length)),(203, .u (I r.uB.length)),(204, .u (I i))] (oK x r len (OC M (BF i0 k))) 32 Q):=by
 have te:=VL x.yw i0 r.wk
 have PE:=λq=> @ke x.yw i0 r.wk oE q
 rw[<-hk]at te PE
 have sR:x.XC.length=385:=by rw[KF];rfl
 dsimp only[oW]
 repeat' (first
  |refine tk ?_
  |refine CA ?_|refine an ?_ ?_|(intro Z;try simp at Z))
 refine FB (oW x r len y m fw n1 nw i n i0 k M) (λj=>k-j.1) ?_ ?_
 ·exact⟨⟨0,O⟩,[],U,OA.nil UA ⟨rfl,rfl,rfl,rfl,rfl,rfl,rfl,rfl,rfl,rfl,rfl,rfl,U⟩ ⟨rfl,TB rfl (by simp[DA.cells];rfl),HA,eH⟩⟩
 ·rintro⟨j,hj⟩
  intro F H Y hF hH hn;dsimp only[oW]at hF hH hn;subst hF hH hn
  have nK:=jG (BF i0 j) M
  have vB:=PE (j+1) O hj
  have e2:(OC M (BF i0 j)).set (0+(i0+(j:Int)).toNat*1) 1=OC M (BF i0 (j+1)):=by rw[re,HQ,Nat.zero_add,Nat.mul_one]
  have ew:((x.yw+(i0+(j:Int)+1).toNat*1:Nat):Int)%7=(x.yw+i0+((j+1:Nat):Int))%7:=O
  repeat' (first
   |refine tk ?_
   |refine And.intro (λ_=>by dsimp only;omega) ?_
   |refine MU KF (by dsimp only;omega) ?_
   |refine RH (by rw[nK];(try dsimp only);omega) ?_
   |refine CA ?_|refine an ?_ ?_|(intro Z;try simp at Z))
  ·have pW:j+1=k:=vB.1 O
   have e3:OC M (BF i0 k)=OC M (BF i0 (j+1)):=by rw[pW]
   refine⟨[],OA.nil UA ⟨rfl,rfl,rfl,rfl,rfl,rfl,rfl,rfl,rfl,rfl,U⟩ ⟨?_,TB rfl (by simp[DA.cells];rfl),HA,gA rfl (by rw[e3,e2]),eH⟩⟩
   show some (DA.st _)=some (DA.st (XB {x with wn:=OC M (BF i0 k)} 26 27 28 29 30 31 21 22 23 24 25))
   simp only[XB,jG]
  ·have pW:j+1≠k:=λh=>Z (by have:=vB.2 h;omega)
   refine⟨⟨j+1,O⟩,[],show k- (j+1)<k-j by omega,OA.nil UA ⟨rfl,rfl,rfl,rfl,rfl,rfl,rfl,rfl,rfl,rfl,bB (show i0+(j:Int)+1=i0+((j+1:Nat):Int)by omega),rfl,U⟩ ⟨?_,TB rfl (by simp[DA.cells];rfl),HA,gA rfl (by rw[e2]),eH⟩⟩
   show some (DA.st _)=some (DA.st (XB {x with wn:=OC M (BF i0 (j+1))} 26 27 28 29 30 31 21 22 23 24 25))
   simp only[XB,jG]
  ·omega
def qW (x:IT) (r:RR) (len y m fw n1 nw:Int) (i0:Int) (k:Nat) (M:List Int):MB {j:Nat//j+1<=k}where
 F j:=[(0, .u (.p 0 7)),(1, .u (I y)),(2, .u (I m)),(6, .u (I fw)),(7, .u (I n1)),(11, .u (I nw)),(16, .u (I (i0+j.1))),(17, .u (I j.1))]
 H j:=oK x r len (OC M (BF i0 j.1))
 n j:=32
theorem B8 {w:World} {W:Nat->Prop} {G:wA} {g:GW w W} {Q:QT} (x:IT) (r:RR) (len y m fw n1 nw:Int) (i0:Int) (k:Nat) (hk:k=CG x.yw i0 r.wk) (oE:0<=r.wk/\r.wk<=6) (M:List Int) (ZI:x.yw<=6) (KF:x.XC=JF 55) (h0:0<=i0) (D:i0+k<=M.length) (hM:M.length<=378):
  T (cx w W f48.ntmps (KA yF) 26 G g) ((f48.body.bind (zH 4)).getD .skip) ((qW x r len y m fw n1 nw i0 k M).F ⟨0,by rw[hk];exact(VL _ _ _).1⟩) ((qW x r len y m fw n1 nw i0 k M).H ⟨0,by rw[hk];exact(VL _ _ _).1⟩) 32
   (yE (cx w W f48.ntmps (KA yF) 26 G g) [(0, .u (.p 0 7)),(1, .u (I y)),(2, .u (I m)),(6, .u (I fw)),(7, .u (I n1)),(11, .u (I nw))] (oK x r len (OC M (BF i0 k))) 32 Q):=by
 have te:=VL x.yw i0 r.wk
 have PE:=λq=> @ke x.yw i0 r.wk oE q
 rw[<-hk]at te PE
 have sR:x.XC.length=385:=by rw[KF];rfl
 dsimp only[qW]
 repeat' (first
  |refine tk ?_
  |refine CA ?_|refine an ?_ ?_|(intro Z;try simp at Z))
 refine FB (qW x r len y m fw n1 nw i0 k M) (λj=>k-j.1) ?_ ?_
 ·exact⟨⟨0,O⟩,[],U,OA.nil UA ⟨rfl,rfl,rfl,rfl,rfl,rfl,rfl,rfl,U⟩ ⟨rfl,TB rfl (by simp[DA.cells];rfl),HA,eH⟩⟩
 ·rintro⟨j,hj⟩
  intro F H Y hF hH hn;dsimp only[qW]at hF hH hn;subst hF hH hn
  have nK:=jG (BF i0 j) M
  have vB:=PE (j+1) O hj
  have e2:(OC M (BF i0 j)).set (0+(i0+(j:Int)).toNat*1) 1=OC M (BF i0 (j+1)):=by rw[re,HQ,Nat.zero_add,Nat.mul_one]
  have ew:((x.yw+(i0+(j:Int)+1).toNat*1:Nat):Int)%7=(x.yw+i0+((j+1:Nat):Int))%7:=O
  repeat' (first
   |refine tk ?_
   |refine And.intro (λ_=>by dsimp only;omega) ?_
   |refine MU KF (by dsimp only;omega) ?_
   |refine RH (by rw[nK];(try dsimp only);omega) ?_
   |refine CA ?_|refine an ?_ ?_|(intro Z;try simp at Z))
  ·have pW:j+1=k:=vB.1 O
   have e3:OC M (BF i0 k)=OC M (BF i0 (j+1)):=by rw[pW]
   refine⟨[],OA.nil UA ⟨rfl,rfl,rfl,rfl,rfl,rfl,U⟩ ⟨?_,TB rfl (by simp[DA.cells];rfl),HA,gA rfl (by rw[e3,e2]),eH⟩⟩
   show some (DA.st _)=some (DA.st (XB {x with wn:=OC M (BF i0 k)} 26 27 28 29 30 31 21 22 23 24 25))
   simp only[XB,jG]
  ·have pW:j+1≠k:=λh=>Z (by have:=vB.2 h;omega)
   refine⟨⟨j+1,O⟩,[],show k- (j+1)<k-j by omega,OA.nil UA ⟨rfl,rfl,rfl,rfl,rfl,rfl,bB (show i0+(j:Int)+1=i0+((j+1:Nat):Int)by omega),rfl,U⟩ ⟨?_,TB rfl (by simp[DA.cells];rfl),HA,gA rfl (by rw[e2]),eH⟩⟩
   show some (DA.st _)=some (DA.st (XB {x with wn:=OC M (BF i0 (j+1))} 26 27 28 29 30 31 21 22 23 24 25))
   simp only[XB,jG]
  ·omega
def rW (x:IT) (r:RR) (len y m:Int) (k n:Nat) (f e:Int) (M:List Int) (zs:List Int) (EJ:List SV):MB {j:Nat//j<=r.vA.length}where
 F j:=[(0, .u (.p 0 7)),(1, .u (I y)),(2, .u (I m)),(28, .u (I f)),(29, .u (I e)),(504, .u (.s 34 0 n)),(505, .u (I n)),(506, .u (I k)),(524, .u (.s 9 0 r.vA.length)),(525, .u (I r.vA.length)),(526, .u (I j.1))]
 H j:=[(33,some (.X 1 3 (A zs))),(34,some (.X 1 22 EJ))]++NU x r len (OC M (ZF x.yw f e (r.vA.take j.1)))
 n j:=35
theorem C8 {w:World} {W:Nat->Prop} {G:wA} {g:GW w W} {Q:QT} (x:IT) (r:RR) (len y m:Int) (k n:Nat) (f e:Int) (M:List Int) (zs:List Int) (EJ:List SV) (ZI:x.yw<=6) (KF:x.XC=JF 55) (hf:0<=f) (he:e<M.length) (hM:M.length<=400) (x7:f<=400/\0<=e) (rJ:r.vA.length<=100) (WL:∀LA H,WA H 34=some (.X 1 22 EJ)->LA 34=34->LA 33=33->aE LA H 34 (.X 1 22 EJ))
  (hB:∀p∈r.vA,0<=p.1/\p.1<=6/\-60<=p.2/\p.2<=60/\0<=YI f e p/\YI f e p<=378):
  T (cx w W f48.ntmps (KA yF) 26 G g) ((f48.body.bind (zH 12)).getD .skip) ((rW x r len y m k n f e M zs EJ).F ⟨0,Nat.zero_le _⟩) ((rW x r len y m k n f e M zs EJ).H ⟨0,Nat.zero_le _⟩) 35
   (yE (cx w W f48.ntmps (KA yF) 26 G g) [(0, .u (.p 0 7)),(1, .u (I y)),(2, .u (I m)),(504, .u (.s 34 0 n)),(505, .u (I n)),(506, .u (I k))] ([(33,some (.X 1 3 (A zs))),(34,some (.X 1 22 EJ))]++NU x r len (OC M (ZF x.yw f e r.vA))) 35 Q):=by
 dsimp only[rW]
 repeat' (first
  |refine tk ?_
  |refine CA ?_|refine an ?_ ?_|(intro Z;try simp at Z))
 refine FB (rW x r len y m k n f e M zs EJ) (λj=>r.vA.length-j.1) ?_ ?_
 ·exact⟨⟨0,Nat.zero_le _⟩,[],U,OA.nil UA ⟨rfl,rfl,rfl,rfl,rfl,rfl,rfl,rfl,rfl,rfl,rfl,U⟩ ⟨gA rfl rfl,WL _ _ rfl rfl rfl,rfl,TB rfl (by simp[DA.cells];rfl),HA,gA rfl rfl,eH⟩⟩
 ·rintro⟨j,hj⟩
  intro F H Y hF hH hn;dsimp only[rW]at hF hH hn;subst hF hH hn
  have nK:=jG (ZF x.yw f e (r.vA.take j)) M
  have sR:x.XC.length=385:=by rw[KF];rfl
  rcases Nat.lt_or_ge j r.vA.length with fA|IF
  ·have LI:r.vA.getD j (0,0)∈r.vA:=by rw[List.getD_eq_getElem?_getD,List.getElem?_eq_getElem fA];exact List.getElem_mem fA
   have hp:=hB _ LI
   have hq:=np (yw:=x.yw) (f:=f) (e:=e) fA
   obtain⟨⟨p1,p2⟩,qO⟩:∃p,r.vA.getD j (0,0)=p:=⟨_,rfl⟩
   rw[qO]at hp hq
   dsimp only at hp
   by_cases hn:p2<0
   ·have DH:YI f e (p1,p2)=(e+(p2+1)*7):=if_pos hn
    have vN:GN x.yw f e (p1,p2)=(e+(p2+1)*7)- ((((x.yw+(e+(p2+1)*7).toNat*1:Nat)):Int)%7-p1)%7:=by
     have h0:GN x.yw f e (p1,p2)=YI f e (p1,p2)- ((x.yw+YI f e (p1,p2))%7-p1)%7:=if_pos hn
     rw[h0,DH];rw[DH]at hp;omega
    rw[DH]at hp
    rw[vN]at hq
    repeat' (first
     |refine tk ?_
     |refine nZ j O O qO λrest=> ?_
     |refine And.intro (λZ=> ?_) UD
     |refine And.intro UD (λZ=> ?_)
     |refine And.intro (λ_=>by dsimp only;omega) ?_
     |refine MU KF (by dsimp only;omega) ?_
     |refine cz 98 func98 (λ_=>IU _ _ O O) ?_
     |refine RH (by rw[nK];dsimp only;omega) ?_
     |refine CA ?_|refine an ?_ ?_|(intro Z;try simp at Z))
    ·have CK:f<=(e+(p2+1)*7)- ((((x.yw+(e+(p2+1)*7).toNat*1:Nat)):Int)%7-p1)%7/\(e+(p2+1)*7)- ((((x.yw+(e+(p2+1)*7).toNat*1:Nat)):Int)%7-p1)%7<=e:=O
     rw[if_pos CK]at hq
     have e2:(OC M (ZF x.yw f e (r.vA.take j))).set (0+((e+(p2+1)*7)- ((((x.yw+(e+(p2+1)*7).toNat*1:Nat)):Int)%7-p1)%7).toNat*1) 1=OC M (ZF x.yw f e (r.vA.take (j+1))):=by
      rw[hq,HQ,Nat.zero_add,Nat.mul_one]
     refine⟨⟨j+1,O⟩,[],show r.vA.length- (j+1)<r.vA.length-j by omega,OA.nil UA ⟨rfl,rfl,rfl,rfl,rfl,rfl,rfl,rfl,rfl,rfl,rfl,U⟩ ⟨gA rfl rfl,WL _ _ rfl rfl rfl,?_,TB rfl (by simp[DA.cells];rfl),HA,gA rfl (by rw[e2]),eH⟩⟩
     show some (DA.st _)=some (DA.st (XB {x with nw:=OC M (ZF x.yw f e (r.vA.take (j+1)))} 26 27 28 29 30 31 32 22 23 24 25))
     simp only[XB,jG]
    ·have CK:¬(f<=(e+(p2+1)*7)- ((((x.yw+(e+(p2+1)*7).toNat*1:Nat)):Int)%7-p1)%7/\(e+(p2+1)*7)- ((((x.yw+(e+(p2+1)*7).toNat*1:Nat)):Int)%7-p1)%7<=e):=O
     rw[if_neg CK,List.append_nil]at hq
     refine⟨⟨j+1,O⟩,[],show r.vA.length- (j+1)<r.vA.length-j by omega,OA.nil UA ⟨rfl,rfl,rfl,rfl,rfl,rfl,rfl,rfl,rfl,rfl,rfl,U⟩ ⟨gA rfl rfl,WL _ _ rfl rfl rfl,?_,TB rfl (by simp[DA.cells];rfl),HA,gA rfl (by rw[hq]),eH⟩⟩
     show some (DA.st _)=some (DA.st (XB {x with nw:=OC M (ZF x.yw f e (r.vA.take (j+1)))} 26 27 28 29 30 31 32 22 23 24 25))
     simp only[XB,jG]
   ·have DH:YI f e (p1,p2)=(f+(p2-1)*7):=if_neg hn
    have vN:GN x.yw f e (p1,p2)=(f+(p2-1)*7)+(7- (((x.yw+(f+(p2-1)*7).toNat*1:Nat)):Int)%7+p1)%7:=by
     have h0:GN x.yw f e (p1,p2)=YI f e (p1,p2)+(7- (x.yw+YI f e (p1,p2))%7+p1)%7:=if_neg hn
     rw[h0,DH];rw[DH]at hp;omega
    rw[DH]at hp
    rw[vN]at hq
    repeat' (first
     |refine tk ?_
     |refine nZ j O O qO λrest=> ?_
     |refine And.intro (λZ=> ?_) UD
     |refine And.intro UD (λZ=> ?_)
     |refine And.intro (λ_=>by dsimp only;omega) ?_
     |refine MU KF (by dsimp only;omega) ?_
     |refine cz 98 func98 (λ_=>IU _ _ O O) ?_
     |refine RH (by rw[nK];dsimp only;omega) ?_
     |refine CA ?_|refine an ?_ ?_|(intro Z;try simp at Z))
    ·have CK:f<=(f+(p2-1)*7)+(7- (((x.yw+(f+(p2-1)*7).toNat*1:Nat)):Int)%7+p1)%7/\(f+(p2-1)*7)+(7- (((x.yw+(f+(p2-1)*7).toNat*1:Nat)):Int)%7+p1)%7<=e:=O
     rw[if_pos CK]at hq
     have e2:(OC M (ZF x.yw f e (r.vA.take j))).set (0+((f+(p2-1)*7)+(7- (((x.yw+(f+(p2-1)*7).toNat*1:Nat)):Int)%7+p1)%7).toNat*1) 1=OC M (ZF x.yw f e (r.vA.take (j+1))):=by
      rw[hq,HQ,Nat.zero_add,Nat.mul_one]
     refine⟨⟨j+1,O⟩,[],show r.vA.length- (j+1)<r.vA.length-j by omega,OA.nil UA ⟨rfl,rfl,rfl,rfl,rfl,rfl,rfl,rfl,rfl,rfl,rfl,U⟩ ⟨gA rfl rfl,WL _ _ rfl rfl rfl,?_,TB rfl (by simp[DA.cells];rfl),HA,gA rfl (by rw[e2]),eH⟩⟩
     show some (DA.st _)=some (DA.st (XB {x with nw:=OC M (ZF x.yw f e (r.vA.take (j+1)))} 26 27 28 29 30 31 32 22 23 24 25))
     simp only[XB,jG]
    ·have CK:¬(f<=(f+(p2-1)*7)+(7- (((x.yw+(f+(p2-1)*7).toNat*1:Nat)):Int)%7+p1)%7/\(f+(p2-1)*7)+(7- (((x.yw+(f+(p2-1)*7).toNat*1:Nat)):Int)%7+p1)%7<=e):=O
     rw[if_neg CK,List.append_nil]at hq
     refine⟨⟨j+1,O⟩,[],show r.vA.length- (j+1)<r.vA.length-j by omega,OA.nil UA ⟨rfl,rfl,rfl,rfl,rfl,rfl,rfl,rfl,rfl,rfl,rfl,U⟩ ⟨gA rfl rfl,WL _ _ rfl rfl rfl,?_,TB rfl (by simp[DA.cells];rfl),HA,gA rfl (by rw[hq]),eH⟩⟩
     show some (DA.st _)=some (DA.st (XB {x with nw:=OC M (ZF x.yw f e (r.vA.take (j+1)))} 26 27 28 29 30 31 32 22 23 24 25))
     simp only[XB,jG]
  ·have zO:r.vA.take j=r.vA:=List.take_of_length_le IF
   rw[zO]
   repeat' (first
    |refine tk ?_
    |refine And.intro UD (λZ=> ?_)
    |refine CA ?_|refine an ?_ ?_|(intro Z;try simp at Z))
   exact⟨[],OA.nil UA ⟨rfl,rfl,rfl,rfl,rfl,rfl,U⟩ ⟨gA rfl rfl,WL _ _ rfl rfl rfl,rfl,TB rfl (by simp[DA.cells];rfl),HA,gA rfl rfl,eH⟩⟩
def sW (x:IT) (r:RR) (len y m:Int) (n1:Nat) (M:List Int):MB {i:Nat//i<=n1}where
 F i:=[(0, .u (.p 0 7)),(1, .u (I y)),(2, .u (I m)),(7, .u (I n1)),(22, .u (I i.1))]
 H i:=oK x r len (OC M (BF 0 i.1))
 n i:=32
theorem D8 {w:World} {W:Nat->Prop} {G:wA} {g:GW w W} {Q:QT} (x:IT) (r:RR) (len y m:Int) (n1:Nat) (h:n1<=6) (M:List Int) (hM:7<=M.length):
  T (cx w W f48.ntmps (KA yF) 26 G g) ((f48.body.bind (zH 6)).getD .skip) ((sW x r len y m n1 M).F ⟨0,Nat.zero_le _⟩) ((sW x r len y m n1 M).H ⟨0,Nat.zero_le _⟩) 32
   (yE (cx w W f48.ntmps (KA yF) 26 G g) [(0, .u (.p 0 7)),(1, .u (I y)),(2, .u (I m))] (oK x r len (OC M (BF 0 n1))) 32 Q):=by
 dsimp only[sW]
 repeat' (first
  |refine tk ?_
  |refine CA ?_|refine an ?_ ?_|(intro Z;try simp at Z))
 refine FB (sW x r len y m n1 M) (λi=>n1-i.1) ?_ ?_
 ·exact⟨⟨0,O⟩,[],U,OA.nil UA ⟨rfl,rfl,rfl,rfl,rfl,U⟩ ⟨rfl,TB rfl (by simp[DA.cells];rfl),HA,eH⟩⟩
 ·rintro⟨i,hi⟩
  intro F H Y hF hH hn;dsimp only[sW]at hF hH hn;subst hF hH hn
  have nK:=jG (BF 0 i) M
  have e2:(OC M (BF 0 i)).set (0+(i:Int).toNat*1) 1=OC M (BF 0 (i+1)):=by
   rw[re,HQ];congr 1;omega
  repeat' (first
   |refine tk ?_
   |refine And.intro (λ_=>by dsimp only;omega) ?_
   |refine RH (by rw[nK];(try dsimp only);omega) ?_
   |refine CA ?_|refine an ?_ ?_|(intro Z;try simp at Z))
  ·refine⟨⟨i+1,O⟩,[],show n1- (i+1)<n1-i by omega,OA.nil UA ⟨rfl,rfl,rfl,rfl,rfl,U⟩ ⟨?_,TB rfl (by simp[DA.cells];rfl),HA,gA rfl (by rw[e2]),eH⟩⟩
   show some (DA.st _)=some (DA.st (XB {x with wn:=OC M (BF 0 (i+1))} 26 27 28 29 30 31 21 22 23 24 25))
   simp only[XB,jG]
  ·have e:i=n1:=O
   subst e
   exact⟨[],OA.nil UA ⟨rfl,rfl,rfl,U⟩ ⟨rfl,TB rfl (by simp[DA.cells];rfl),HA,eH⟩⟩
def YJ (yw:Nat) (wk fw n1 nw:Int) (l:List Int):List Nat:=l.flatMap (wQ yw wk fw n1 nw)
theorem E8 {yw:Nat} {wk fw n1 nw:Int} {l:List Int} {j:Nat} (h:j<l.length):YJ yw wk fw n1 nw (l.take (j+1))=YJ yw wk fw n1 nw (l.take j)++wQ yw wk fw n1 nw (l.getD j 0):=by
 unfold YJ
 rw[List.take_succ_eq_append_getElem h,List.flatMap_append,List.getD_eq_getElem?_getD,List.getElem?_eq_getElem h];simp
theorem XD {zs:List Int} {o:Nat} {v:Int} {c0:Bool} {k:SV->Prop} (i:Nat) (ho:o=i) (hi:i<zs.length) (hv:zs.getD i 0=v) (hk:k (I v)):AL (I 0) c0 (A zs) o k:=by
 subst ho;subst hv;exact xL hi hk
def tW (x:IT) (r:RR) (len y m fw n1 nw:Int) (M:List Int):MB {i:Nat//i<=r.uB.length}where
 F i:=[(0, .u (.p 0 7)),(1, .u (I y)),(2, .u (I m)),(6, .u (I fw)),(7, .u (I n1)),(11, .u (I nw)),(202, .u (.s 7 0 r.uB.length)),(203, .u (I r.uB.length)),(204, .u (I i.1))]
 H i:=oK x r len (OC M (YJ x.yw r.wk fw n1 nw (r.uB.take i.1)))
 n i:=32
theorem F8 {w:World} {W:Nat->Prop} {G:wA} {g:GW w W} {Q:QT} (x:IT) (r:RR) (len y m fw n1 nw:Int) (M:List Int) (oE:0<=r.wk/\r.wk<=6) (ZI:x.yw<=6) (KF:x.XC=JF 55) (hM:M.length<=378) (hO:0<=fw/\fw<=6) (cG:0<=n1/\n1<=6) (xG:0<=nw/\nw<=54) (rJ:r.uB.length<=100)
  (hq:∀q,1<=q->q<=nw->0<=QI fw n1 q/\QI fw n1 q+7<=M.length) (hB:∀n∈r.uB,-60<=n/\n<=60):
  T (cx w W f48.ntmps (KA yF) 26 G g) ((f48.body.bind (zH 0)).getD .skip) ((tW x r len y m fw n1 nw M).F ⟨0,Nat.zero_le _⟩) ((tW x r len y m fw n1 nw M).H ⟨0,Nat.zero_le _⟩) 32
   (yE (cx w W f48.ntmps (KA yF) 26 G g) [(0, .u (.p 0 7)),(1, .u (I y)),(2, .u (I m)),(6, .u (I fw)),(7, .u (I n1)),(11, .u (I nw))] (oK x r len (OC M (YJ x.yw r.wk fw n1 nw r.uB))) 32 Q):=by
 dsimp only[tW]
 repeat' (first
  |refine tk ?_
  |refine CA ?_|refine an ?_ ?_|(intro Z;try simp at Z))
 refine FB (tW x r len y m fw n1 nw M) (λi=>r.uB.length-i.1) ?_ ?_
 ·exact⟨⟨0,O⟩,[],U,OA.nil UA ⟨rfl,rfl,rfl,rfl,rfl,rfl,rfl,rfl,rfl,U⟩ ⟨rfl,TB rfl (by simp[DA.cells];rfl),HA,eH⟩⟩
 ·rintro⟨i,hi⟩
  intro F H Y hF hH hn;dsimp only[tW]at hF hH hn;subst hF hH hn
  rcases Nat.lt_or_ge i r.uB.length with fA|IF
  ·obtain⟨v,hv⟩:∃v,r.uB.getD i 0=v:=⟨_,rfl⟩
   have hvb: -60<=v/\v<=60:=by rw[<-hv];exact hB _ (by rw[List.getD_eq_getElem?_getD,List.getElem?_eq_getElem fA];exact List.getElem_mem fA)
   obtain⟨q,tR⟩:∃q,q=RI nw v:=⟨_,rfl⟩
   have OU: -60<=q/\q<=120:=by rw[tR];unfold RI;split<;>omega
   have RE:=E8 (yw:=x.yw) (wk:=r.wk) (fw:=fw) (n1:=n1) (nw:=nw) fA
   rw[hv]at RE
   obtain⟨ix,jE⟩:∃ix,ix=QI fw n1 q:=⟨_,rfl⟩
   have nK:=jG (YJ x.yw r.wk fw n1 nw (r.uB.take i)) M
   have IQ:0<q/\q<=nw->0<=ix/\ix+(CG x.yw ix r.wk:Nat)<=(OC M (YJ x.yw r.wk fw n1 nw (r.uB.take i))).length:=λh=>by
    have:=hq q O h.2
    have:=VL x.yw ix r.wk
    rw[nK,jE]at*;omega
   repeat' (first
    |refine FQ (x:= .block 2 _) (A8 x r len y m fw n1 nw i q ix _ rfl oE (OC M (YJ x.yw r.wk fw n1 nw (r.uB.take i))) ZI KF (IQ (by assumption)).1 (IQ (by assumption)).2 (by rw[nK];exact hM)) (eN ⟨rfl,rfl,rfl,rfl,rfl,rfl,rfl,rfl,rfl,rfl,bB (show ix=ix+((0:Nat):Int)by omega),rfl,U⟩ eH) ?_
    |refine pC (x:= .seq (.region 30 _ _) _) [(0, .u (.p 0 7)),(1, .u (I y)),(2, .u (I m)),(6, .u (I fw)),(7, .u (I n1)),(11, .u (I nw)),(202, .u (.s 7 0 r.uB.length)),(203, .u (I r.uB.length)),(204, .u (I i)),(13, .u (I q))] (oK x r len (OC M (YJ x.yw r.wk fw n1 nw (r.uB.take i)))) 32 ?_ ?_
    |refine pC (x:= .seq (.region 34 _ _) _) [(0, .u (.p 0 7)),(1, .u (I y)),(2, .u (I m)),(6, .u (I fw)),(7, .u (I n1)),(11, .u (I nw)),(202, .u (.s 7 0 r.uB.length)),(203, .u (I r.uB.length)),(204, .u (I i)),(13, .u (I q)),(14, .u (I ix))] (oK x r len (OC M (YJ x.yw r.wk fw n1 nw (r.uB.take i)))) 32 ?_ ?_
    |refine tk ?_
    |refine And.intro (λZ=> ?_) UD
    |refine XD i O O hv ?_
    |refine CA ?_|refine an ?_ ?_|(intro Z;try simp at Z))
   ·have e:v+(nw+1)=q:=by rw[tR,RI,if_pos Z]
    exact⟨[],OA.nil UA ⟨rfl,rfl,rfl,rfl,rfl,rfl,rfl,rfl,rfl,bB e,U⟩ ⟨rfl,TB rfl (by simp[DA.cells];rfl),HA,eH⟩⟩
   ·have e:v=q:=by rw[tR,RI,if_neg O]
    exact⟨[],OA.nil UA ⟨rfl,rfl,rfl,rfl,rfl,rfl,rfl,rfl,rfl,bB e,U⟩ ⟨rfl,TB rfl (by simp[DA.cells];rfl),HA,eH⟩⟩
   ·have e:wQ x.yw r.wk fw n1 nw v=[]:=by unfold wQ;rw[<-tR,if_neg O]
    rw[e,List.append_nil]at RE
    refine⟨⟨i+1,O⟩,[],show r.uB.length- (i+1)<r.uB.length-i by omega,OA.nil UA ⟨rfl,rfl,rfl,rfl,rfl,rfl,rfl,rfl,rfl,U⟩ ⟨?_,TB rfl (by simp[DA.cells];rfl),HA,gA rfl (by rw[RE]),eH⟩⟩
    show some (DA.st _)=some (DA.st (XB {x with wn:=OC M (YJ x.yw r.wk fw n1 nw (r.uB.take (i+1)))} 26 27 28 29 30 31 21 22 23 24 25))
    simp only[XB,jG]
   ·have e:n1+(q-1)*7- (7-fw)=ix:=by rw[jE,QI,if_pos (by assumption),if_pos Z]
    exact⟨[],OA.nil UA ⟨rfl,rfl,rfl,rfl,rfl,rfl,rfl,rfl,rfl,rfl,bB e,U⟩ ⟨rfl,TB rfl (by simp[DA.cells];rfl),HA,eH⟩⟩
   ·have e:n1+(q-1)*7=ix:=by rw[jE,QI,if_pos (by assumption),if_neg (by simpa using Z)]
    exact⟨[],OA.nil UA ⟨rfl,rfl,rfl,rfl,rfl,rfl,rfl,rfl,rfl,rfl,bB e,U⟩ ⟨rfl,TB rfl (by simp[DA.cells];rfl),HA,eH⟩⟩
   ·have e:n1=ix:=by rw[jE,QI,if_neg O]
    exact⟨[],OA.nil UA ⟨rfl,rfl,rfl,rfl,rfl,rfl,rfl,rfl,rfl,rfl,bB e,U⟩ ⟨rfl,TB rfl (by simp[DA.cells];rfl),HA,eH⟩⟩
   ·have e:wQ x.yw r.wk fw n1 nw v=BF ix (CG x.yw ix r.wk):=by unfold wQ;rw[<-tR,if_pos (by assumption),<-jE]
    have e3:OC (OC M (YJ x.yw r.wk fw n1 nw (r.uB.take i))) (BF ix (CG x.yw ix r.wk))=OC M (YJ x.yw r.wk fw n1 nw (r.uB.take (i+1))):=by
     rw[RE,e];unfold OC marks;rw[List.foldl_append]
    refine⟨⟨i+1,O⟩,[],show r.uB.length- (i+1)<r.uB.length-i by omega,eN eF ⟨?_,TB rfl (by simp[DA.cells];rfl),HA,gA rfl (by rw[e3]),eH⟩⟩
    show some (DA.st _)=some (DA.st (XB {x with wn:=OC M (YJ x.yw r.wk fw n1 nw (r.uB.take (i+1)))} 26 27 28 29 30 31 21 22 23 24 25))
    simp only[XB,aK]
  ·have zO:r.uB.take i=r.uB:=List.take_of_length_le IF
   rw[zO]
   repeat' (first
    |refine tk ?_
    |refine And.intro UD (λZ=> ?_)
    |refine CA ?_|refine an ?_ ?_|(intro Z;try simp at Z))
   exact⟨[],eN eF eH⟩
end En
end Go.Proofs.YtkidgehblodbcaaGreatDoor
