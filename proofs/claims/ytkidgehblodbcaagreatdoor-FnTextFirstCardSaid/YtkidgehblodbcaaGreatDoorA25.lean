/- A part of the proof of FnTextFirst: generate, walked. -/
import Derived.Test.YtkidgehblodbcaaGreatDoorA16
set_option linter.all false
set_option maxRecDepth 100000
set_option maxHeartbeats 16000000
namespace Go.Proofs.YtkidgehblodbcaaGreatDoor
namespace En
open Go.RowKit Go.Proofs.Tryz
abbrev MG:List Nat:=[0,1,2,3,4,5,6,7,8,9,10,11,12,13,14,26,27,28,29,30,31,32,33,34,35,36]
theorem call149 {C:Cx} {H:HS} {Y:Nat} {c0:Bool} {k:QD->Prop} {fn:Func} (x:IT) (t:Int) (hs:x.so=0) (hl:x.sl<=x.st.length) (qC:x.sl<=1000000) (hf:prog.funcs[149]? =some fn) (hP:C.P=prog) (Z:fn.body.isNone=false)
  (dB:MI MG [(0,some (.st (kE x))),(24,some (.X 2 51 (iA x.st)))] 26 27 Y=true) (h0:WA H 0=some (.st (HX x))) (D:WA H 35=some (.X 2 51 (iA x.st)))
  (hk:k ⟨.jA [],[(0,some (.st (XB {x with st:=x.st.take x.sl++[t],sl:=x.sl+1} 26 27 28 29 30 31 32 33 34 Y 36))),(35,none),(Y,some (.X 2 51 (iA (x.st.take x.sl++[t]))))],Y+1+1,MG⟩):cA C 149 [.p 0 26,Tm t] H Y c0 k:=
 cA.F MG hf hP Z (λ_=>S7 x t hs hl qC) dB rfl (λ_=>⟨h0,by show _=some (DA.X 2 51 (YA _ (iA x.st)));rw[SC];exact D,U⟩) (s:= .jA []) rfl (wh:=[(0,some (.st (XB {x with st:=x.st.take x.sl++[t],sl:=x.sl+1} 26 27 28 29 30 31 32 33 34 Y 36))),(35,none),(Y,some (.X 2 51 (iA (x.st.take x.sl++[t]))))])
  (by show[(0,some (DA.st (YA _ _))),(35,none),(Y,some (DA.X 2 51 (YA _ (iA _))))]=_;rw[SC];rfl) hk
theorem RQ {xs ys:List SV} (h:aO xs ys:=by repeat' (first|exact trivial|refine And.intro (Or.inr rfl) ?_|refine And.intro (Or.inl rfl) ?_)):aO xs ys:=h
theorem Ir {a n u:Int} (h:1<=a/\0<=n):(if(!(a==0&&n==0))=true then decide (a<u\/a=u/\n<0)else false)=decide (a<u):=by
 have e:(a==0)=false:=by simp;omega
 rw[e,Bool.false_and,Bool.not_false,if_pos rfl];exact decide_eq_decide.2 O
theorem Jr (u d:Int):(!decide (u<d\/u=d/\(0:Int)<0))=decide (d<=u):=by
 by_cases h:d<=u
 ·rw[decide_eq_true h,decide_eq_false O];rfl
 ·rw[decide_eq_false h,decide_eq_true O];rfl
theorem gf {T:DA} {ts:List Int} {o:Nat} {k:List SV->Prop} (hT:T.cells=iA ts) (q:Nat) {t:Int} (ho:o=2*q) (hq:q<ts.length) (he:ts.getD q 0=t) (hk:∀rest,k (I t::I 0::rest)):IK T.cells o k:=by
 subst he;rw[hT];exact mF q ho (by rw[List.length_map];exact hq) λrest=>by rw[DQ hq];exact hk rest
theorem JX {ds:List (Int×Bool)} {o:Nat} {a:Int} {b:Bool} {k:List SV->Prop} (j:Nat) (ho:o=2*j) (hj:j<ds.length) (he:ds.getD j (0,false)=(a,b)) (hk:∀rest,k (I a::B b::rest)):IK (uC ds) o k:=by
 subst ho
 have e:∀(ds:List (Int×Bool)) (j:Nat),j<ds.length->∃rest,(uC ds).drop (2*j)=I (ds.getD j (0,false)).1::B (ds.getD j (0,false)).2::rest:=by
  intro ds
  induction ds with
  |nil=>intro j h;simp at h
  |cons p ds ih=>
   intro j h
   cases j with
   |zero=>exact⟨uC ds,by simp[uC]⟩
   |succ j=>
    obtain⟨rest,hr⟩:=ih j (by simpa using h)
    exact⟨rest,by rw[show 2*(j+1)=2*j+2 by omega];simpa [uC]using hr⟩
 have e2:∀(n:Nat) (l:List SV) (k:List SV->Prop),n<=l.length->k (l.drop n)->IK l n k:=by
  intro n
  induction n with
  |zero=>intro l k _ h;simpa [IK]using h
  |succ n ih=>
   intro l k hl h
   cases l with
   |nil=>simp at hl
   |cons y l=>exact ih l k (by simpa using hl) (by simpa using h)
 obtain⟨rest,hr⟩:=e ds j hj
 refine e2 _ _ _ (by rw[cW];omega) ?_
 rw[hr,he];exact hk rest
def w9 (st:List Int) (sl:Nat):List SV:=List.replicate 26 (.any λ_=>True)++[.s 26 0 sl, .s 26 0 st.length,B true, .any λ_=>True]
def ZU (st:List Int) (sl:Nat):HS:=[(0,some (.st (w9 st sl))),(26,some (.X 2 51 (iA st)))]
def oX (x:IT) (E:List Int) (c:Int):IT:={x with st:=nD x.st E,so:=0,sl:=E.length,total:=x.total+E.length,count:=c}
theorem Ga (x:IT) (E:List Int) (c u c':Int) (b:Nat):some (DA.st (XB {oX x E c with st:=(nD x.st E).take E.length++[u],sl:=E.length+1,total:=x.total+E.length+1,count:=c'} 26 27 28 29 30 31 32 33 34 b 36))=some (DA.st (XB (oX x (E++[u]) c') 26 27 28 29 30 31 32 33 34 b 36)):=by
 have e1:x.total+((E++[u]).length:Int)=x.total+E.length+1:=by simp;omega
 simp only[XB,oX,aR,e1]
 simp
theorem eJ {C:Cx} {F:FS} {H:HS} {Y:Nat} {F':FS} {H':HS} {n':Nat} (l:List (Nat×Nat)) (hf:QK (sig l n' Y) F F') (hh:lC (sig l n' Y) H H') (hn:C.n0<=n':=by exact UA) (hl:(l.all λx=>Nat.ble C.n0 x.1)=true:=by rfl)
  (hj:(H'.all λx=>H'.all λy=>Nat.beq x.1 y.1|| !(Nat.beq (sig l n' Y x.1) (sig l n' Y y.1)))=true:=by rfl):OA C l F H Y F' H' n':=OA.names l hn hl (List.all_eq_true.2 λx hx=>by
   have:=List.all_eq_true.1 hj x hx
   simp only[Bool.or_eq_true,Bool.not_eq_true']at this⊢
   exact .inr this) hf hh
def Ha (C:Cx) (p:Prop) (F':FS) (H':HS) (n':Nat) (Q:QT):QT
 | .normal,F,H,Y=>∃l,p/\OA C l F H Y F' H' n'
 |e,F,H,Y=>Q e F H Y
theorem SQ {C:Cx} {x y:Code} {p:Prop} {F:FS} {H:HS} {Y:Nat} {F':FS} {H':HS} {n':Nat} {F2:FS} {H2:HS} {n2:Nat} {Q:QT} {l:List (Nat×Nat)} (h:T C x F' H' n' (Ha C p F2 H2 n2 (rL C y Q))) (he:OA C l F H Y F' H' n') (hr:p->T C y F2 H2 n2 Q):T C x F H Y (rL C y Q):=
 mB he (ZO h λe F H Y hq=>by
  cases e<;>first|exact hq|(obtain⟨l,hp,hl⟩:=hq;exact mB hl (hr hp)))
def Kr (x:IT) (r:RR) (len:Int) (T:DA) (dE:Bool) (R:List Int×Int×Bool):MB {s:Nat×List Int×Int//s.1<=x.ds.length/\0<=s.2.2/\s.2.2<=1000/\s.2.1.length<=s.1*x.ts.length/\zE r.dt r.XA (yG x (x.ds.drop s.1)) s.2.1 s.2.2=R}where
 F s:=[(0, .u (.p 0 0)),(2, .u (.p 1 0)),(6, .u (B dE)),(547, .u (.s 36 0 x.ds.length)),(548, .u (I x.ds.length)),(549, .u (I s.1.1))]
 H s:=gH (oX x s.1.2.1 s.1.2.2) r len T
 n s:=37
def Lr (x:IT) (r:RR) (len:Int) (T:DA) (dE:Bool) (R:List Int×Int×Bool) (j:Nat) (i:Int):MB {s:Nat×List Int×Int//s.1<=x.ts.length/\0<=s.2.2/\s.2.2<=1000/\s.2.1.length<=j*x.ts.length+s.1/\zE r.dt r.XA ((vJ x i).drop s.1++yG x (x.ds.drop (j+1))) s.2.1 s.2.2=R}where
 F s:=[(0, .u (.p 0 0)),(2, .u (.p 1 0)),(6, .u (B dE)),(547, .u (.s 36 0 x.ds.length)),(548, .u (I x.ds.length)),(549, .u (I j)),(33, .u (I (oA (x.fy/86400+i)))),(34, .u (I (KB (x.fy/86400+i)))),(35, .u (I (JC (x.fy/86400+i)))),(573, .u (.s 34 0 x.ts.length)),(574, .u (I x.ts.length)),(575, .u (I s.1.1))]
 H s:=gH (oX x s.1.2.1 s.1.2.2) r len T
 n s:=37
theorem x9 {w:World} {W:Nat->Prop} {G:wA} {g:GW w W} {Q:QT} (x:IT) (r:RR) (len:Int) (T:DA) (hT:∀LA H,WA H 34=some T->LA 34=34->aE LA H 34 T) (AS:T.cells=iA x.ts) (dE:Bool) (R:List Int×Int×Bool)
  (EP:x.ds.length<=400/\∀p∈x.ds,0<=p.1/\p.1<=400) (sD:x.ts.length<=100/\∀t∈x.ts,0<=t/\t<86400) (Ia:0<=x.fy/\x.fy<=320000000000/\x.fy%86400=0) (TG:x.so=0) (oB:x.sl=0) (hc:0<=x.count/\x.count<=1000) (NN:0<=x.total/\x.total<=1000000000000000000) (hR:zE r.dt r.XA (yG x x.ds) [] x.count=R) (aU:1<=r.XA/\0<=r.un)
  (yN:∀F H Y,R.2.2=true->(∃l,OA (cx w W f103.ntmps (KA fE) 26 G g) l [] H Y [] (ZU (nD x.st R.1) R.1.length) 27)->Q .ret F H Y):
  En.T (cx w W f103.ntmps (KA fE) 26 G g) ((f103.body.bind (zH 10)).getD .skip) [(0, .u (.p 0 0)),(2, .u (.p 1 0)),(6, .u (B dE)),(547, .u (.s 36 0 x.ds.length)),(548, .u (I x.ds.length)),(549, .u (I 0))]
   (gH x r len T) 37
   (Ha (cx w W f103.ntmps (KA fE) 26 G g) (R.2.2=false) [(0, .u (.p 0 0)),(2, .u (.p 1 0)),(6, .u (B dE))] (gH (oX x R.1 R.2.1) r len T) 37 Q):=by
 have e0:oX x [] x.count=x:=by
  obtain⟨y,m,d,hh,mi,s,wd,ly,lm,yl,dG,fy,yw,mm,mr,md,nd,XC,wn,nw,ea,ts,total,count,st,so,sl,fin,ds⟩:=x
  dsimp only at TG oB
  subst TG oB
  simp[oX,Dm]
 repeat' (first
  |refine tk ?_
  |refine CA ?_|refine an ?_ ?_|(intro Z;try simp at Z))
 refine FB (Kr x r len T dE R) (λs=>x.ds.length-s.1.1) ?_ ?_
 ·refine⟨⟨(0,[],x.count),Nat.zero_le _,hc.1,hc.2,by simp,hR⟩,[],U,eN eF ?_⟩
  show lC _ _ (gH (oX x [] x.count) r len T)
  rw[e0]
  exact⟨hT _ _ rfl rfl,eH⟩
 ·rintro⟨⟨j,E,c⟩,D,h2,h3,h4,h5⟩
  intro F H Y hF hH hn;dsimp only[Kr]at hF hH hn;subst hF hH hn
  dsimp only at D h2 h3 h4 h5
  rcases Nat.lt_or_ge j x.ds.length with fA|IF
  ·obtain⟨i,b,hp⟩:∃i b,x.ds.getD j (0,false)=(i,b):=⟨_,_,rfl⟩
   have KX:(i,b)∈x.ds:=by rw[<-hp,List.getD_eq_getElem?_getD,List.getElem?_eq_getElem fA];exact List.getElem_mem fA
   have jp:=EP.2 _ KX
   dsimp only at jp
   rw[X2 fA,hp]at h5
   dsimp only at h5
   have hN:(x.fy+i*86400)/86400=x.fy/86400+i:=O
   have TQ:=oR (x.fy+i*86400) 0 O
   rw[hN]at TQ
   cases b with
   |false=>
    have h5:zE r.dt r.XA (yG x (x.ds.drop (j+1))) E c=R:=by simpa using h5
    repeat' (first
     |refine tk ?_
     |refine And.intro (λZ=> ?_) UD
     |refine JX j O fA hp λrest=> ?_
     |refine CA ?_|refine an ?_ ?_|(intro Z;try simp at Z))
    refine⟨⟨(j+1,E,c),fA,h2,h3,by show E.length<=(j+1)*_;rw[Nat.succ_mul];omega,h5⟩,[],show x.ds.length- (j+1)<x.ds.length-j by omega,eN eF ⟨hT _ _ rfl rfl,eH⟩⟩
   |true=>
    repeat' (first
     |refine EQ 12 ?_
     |refine tk ?_
     |refine And.intro (λZ=> ?_) UD
     |refine JX j O fA hp λrest=> ?_
     |refine cz 144 func144 (λ_=>qn x.fy i O O) ?_
     |refine cz 44 func44 (λ_=>TQ) ?_
     |refine CA ?_|refine an ?_ ?_|(intro Z;try simp at Z))
    refine Stop.mk ?_
    rw[if_pos rfl]at h5
    have hjm:j*x.ts.length<=400*100:=Nat.mul_le_mul O sD.1
    have Ja:T.cells.length=2*x.ts.length:=by rw[AS,rC,List.length_map]
    repeat' (first
     |refine tk ?_
     |refine CA ?_|refine an ?_ ?_|(intro Z;try simp at Z))
    refine FB (Lr x r len T dE R j i) (λs=>x.ts.length-s.1.1) ?_ ?_
    ·exact⟨⟨(0,E,c),Nat.zero_le _,h2,h3,by show E.length<=_;omega,h5⟩,[],U,eN eF ⟨hT _ _ rfl rfl,eH⟩⟩
    ·rintro⟨⟨q,E,c⟩,g1,g2,g3,g4,g5⟩
     intro F H Y hF hH hn;dsimp only[Lr]at hF hH hn;subst hF hH hn
     dsimp only at g1 g2 g3 g4 g5
     rcases Nat.lt_or_ge q x.ts.length with BI|LX
     ·obtain⟨t,ht⟩:∃t,x.ts.getD q 0=t:=⟨_,rfl⟩
      have bU:t∈x.ts:=by rw[<-ht,List.getD_eq_getElem?_getD,List.getElem?_eq_getElem BI];exact List.getElem_mem BI
      have htr:=sD.2 _ bU
      obtain⟨u,hu⟩:∃u,u=x.fy+i*86400+t:=⟨_,rfl⟩
      rw[Y2 BI,ht,<-hu,List.cons_append]at g5
      unfold zE at g5
      have cU:=CQ t 0 O
      have JH:=vY (n:=x.fy/86400+i) O
      have eO:oA (x.fy/86400+i)<=20000:=by have:= @OJ (x.fy/86400+i) 20000 (by unfold before;omega);omega
      have vI:=CW (x.fy/86400+i)
      have hda:=mM (x.fy/86400+i)
      have SK:= @OG (oA (x.fy/86400+i)) (KB (x.fy/86400+i))
      have CH:=EN (oA (x.fy/86400+i)) (KB (x.fy/86400+i)) (JC (x.fy/86400+i)) (t%86400/3600) (t%86400/60%60) (t%86400%60) O O O O O O
      have uR:KD (oA (x.fy/86400+i)) (KB (x.fy/86400+i)) (JC (x.fy/86400+i))*86400+t%86400/3600*3600+t%86400/60%60*60+t%86400%60=u:=by
       rw[XK vI,iP];omega
      rw[uR]at CH
      have IC:=IW x.st E
      repeat' (first
       |refine HD ?_
       |refine AD (t:=609) (decide (r.XA<u)) rfl (Ir aU) ?_
       |refine AD (t:=626) (decide (r.dt<=u)) rfl (Jr _ _) ?_
       |refine tk ?_
       |refine And.intro (λZ=> ?_) UD
       |refine And.intro (λ_=>by show zA (x.total+(E.length:Int)+1);unfold zA;omega) ?_
       |refine And.intro (λ_=>by show zA (c-1);unfold zA;omega) ?_
       |refine gf AS q O BI ht λrest=> ?_
       |refine cz 45 func45 (λ_=>cU) ?_
       |refine cz 80 func80 (λ_=>CH) ?_
       |refine cz 145 func145 (λ_=>Yn _ _) ?_
       |refine cz 81 func81 (λ_=>sN _ _) ?_
       |refine cz 41 func41 (λ_=>DM r.XA r.un) ?_
       |refine cz 147 func147 (λ_=>Zn u 0 r.XA r.un) ?_
       |refine cz 148 func148 (λ_=>UZ u 0 r.dt 0) ?_
       |refine call149 {oX x E c with total:=x.total+E.length+1} u rfl IC (by show E.length<=_;omega) rfl rfl rfl rfl rfl rfl ?_
       |refine CA ?_|refine an ?_ ?_|(intro Z;try simp at Z))
      ·rw[if_pos Z]at g5
       subst g5
       exact⟨RK 0 (List.replicate 26 (.any λ_=>True)++[.s 35 0 E.length, .s 35 0 (nD x.st E).length,B true, .any λ_=>True]) rfl RQ (PD (yN _ _ _ rfl ⟨[(26,35)],eL _ trivial eH⟩))⟩
      ·have GL:c=1:=by have:c-1=0:=Z;omega
       have n1:¬r.XA<u:=by simp at*;omega
       have n2:¬u<r.dt:=by simp at*;omega
       rw[if_neg n1,if_neg n2,if_pos GL]at g5
       subst g5
       exact⟨RK 0 (List.replicate 26 (.any λ_=>True)++[.s 39 0 (E.length+1), .s 39 0 ((nD x.st E).take E.length++[u]).length,B true, .any λ_=>True]) rfl RQ (PD (yN _ _ _ rfl (by rw[show(E++[u]).length=E.length+1 by simp,<-aR];exact⟨[(26,39)],eL _ trivial eH⟩)))⟩
      ·have GL:¬c=1:=by intro h;exact Z (by show c-1=0;omega)
       have ZG:¬c=0:=by assumption
       have n1:¬r.XA<u:=by simp at*;omega
       have n2:¬u<r.dt:=by simp at*;omega
       rw[if_neg n1,if_neg n2,if_neg GL,if_neg ZG]at g5
       refine⟨⟨(q+1,E++[u],c-1),BI,by show 0<=c-1;omega,by show c-1<=1000;omega,by show(E++[u]).length<=_;simp;omega,g5⟩,[(35,39)],show x.ts.length- (q+1)<x.ts.length-q by omega,eJ [(35,39)] eF ⟨hT _ _ rfl rfl,Ga x E c u (c-1) 39,rfl,gA rfl rfl,gA rfl rfl,gA rfl rfl,gA rfl rfl,gA rfl rfl,gA rfl rfl,gA rfl rfl,gA rfl rfl,bD rfl (by show iA ((nD x.st E).take E.length++[u])=_;rw[aR];rfl),eH⟩⟩
      ·have ZG:c=0:=Z
       subst ZG
       have n1:¬r.XA<u:=by simp at*;omega
       have n2:¬u<r.dt:=by simp at*;omega
       rw[if_neg n1,if_neg n2,if_neg O,if_pos rfl]at g5
       refine⟨⟨(q+1,E++[u],0),BI,Int.le_refl 0,by show(0:Int)<=1000;omega,by show(E++[u]).length<=_;simp;omega,g5⟩,[(35,39)],show x.ts.length- (q+1)<x.ts.length-q by omega,eJ [(35,39)] eF ⟨hT _ _ rfl rfl,Ga x E 0 u 0 39,rfl,gA rfl rfl,gA rfl rfl,gA rfl rfl,gA rfl rfl,gA rfl rfl,gA rfl rfl,gA rfl rfl,gA rfl rfl,bD rfl (by show iA ((nD x.st E).take E.length++[u])=_;rw[aR];rfl),eH⟩⟩
      ·have n1:¬r.XA<u:=by simp at*;omega
       rw[if_neg n1,if_pos Z]at g5
       refine⟨⟨(q+1,E,c),BI,g2,g3,by show E.length<=j*x.ts.length+(q+1);omega,g5⟩,[],show x.ts.length- (q+1)<x.ts.length-q by omega,eN eF ⟨hT _ _ rfl rfl,eH⟩⟩
     ·have hq:q=x.ts.length:=O
      rw[Z2 x i LX,List.nil_append]at g5
      repeat' (first
       |refine tk ?_
       |refine And.intro UD (λZ=> ?_)
       |refine CA ?_|refine an ?_ ?_|(intro Z;try simp at Z))
      exact⟨⟨(j+1,E,c),fA,g2,g3,by show E.length<=(j+1)*_;rw[Nat.succ_mul];omega,g5⟩,[],show x.ds.length- (j+1)<x.ds.length-j by omega,eN eF ⟨hT _ _ rfl rfl,eH⟩⟩
  ·have hj:x.ds.drop j=[]:=List.drop_of_length_le IF
   rw[hj]at h5
   have h5:(E,c,false)=R:=h5
   repeat' (first
    |refine tk ?_
    |refine And.intro UD (λZ=> ?_)
    |refine CA ?_|refine an ?_ ?_|(intro Z;try simp at Z))
   subst h5
   exact⟨[],rfl,eN eF ⟨hT _ _ rfl rfl,eH⟩⟩
theorem WFA {C:Cx} (k:Nat) {l:List Oper} {b:Bool} {y:Code} {F:FS} {H:HS} {Y:Nat} {Q:QT} (h:Stop (T C (.seq (.region k (List.toArray l) b) y) F H Y Q)):T C (.seq (.region k (List.toArray l) b) y) F H Y Q:=h.ok
theorem lAA {a:Int} {T:Nat} (h: -1001<=a/\a<=1000) (hT:0<T): -1001<=a/(T:Int)/\a/(T:Int)<=1000:=by
 rcases(by omega:a<0\/0<=a)with h0|h0
 ·have D:a*(T:Int)<=a*1:=Int.mul_le_mul_of_nonpos_left O O
  have h2:a<=a/(T:Int):=(Int.le_ediv_iff_mul_le O).2 O
  have h3:a/(T:Int)<1:=Int.ediv_lt_of_lt_mul O O
  omega
 ·have D:=Int.ediv_le_self (T:Int) h0
  have h2:=Int.ediv_nonneg h0 (show(0:Int)<=(T:Int)by omega)
  omega
def zr (x:IT) (r:RR) (len:Int) (T:DA) (dE:Bool):MB {k:Nat//k<=r.sp.length}where
 F k:=[(0, .u (.p 0 0)),(2, .u (.p 1 0)),(5, .u (.s 36 0 x.ds.length)),(6, .u (B dE)),(10, .u (.s 37 0 (YF x (r.sp.take k.1)).length)),(371, .u (.s 2 0 r.sp.length)),(372, .u (I r.sp.length)),(373, .u (I k.1))]
 H k:=[(37,some (.X 2 51 (iA (YF x (r.sp.take k.1)))))]++gH x r len T
 n k:=38
def As (x:IT) (r:RR) (len:Int) (T:DA) (dE:Bool) (k:Nat) (pos dp tp:Int) (P:List Int):MB {q:Nat//q<=x.ds.length}where
 F q:=[(0, .u (.p 0 0)),(2, .u (.p 1 0)),(5, .u (.s 36 0 x.ds.length)),(6, .u (B dE)),(10, .u (.s 37 0 P.length)),(371, .u (.s 2 0 r.sp.length)),(372, .u (I r.sp.length)),(373, .u (I k)),(12, .u (I pos)),(13, .u (I dp)),(14, .u (I tp)),(15, .u (.s 38 0 (QF (x.ds.take q.1)).length)),(400, .u (.s 36 0 x.ds.length)),(401, .u (I x.ds.length)),(402, .u (I q.1))]
 H q:=[(37,some (.X 2 51 (iA P))),(38,some (.X 1 3 (A (QF (x.ds.take q.1)))))]++gH x r len T
 n q:=39
theorem mAA {w:World} {W:Nat->Prop} {G:wA} {g:GW w W} {Q:QT} (x:IT) (r:RR) (len:Int) (T:DA) (hT:∀LA H,WA H 34=some T->LA 34=34->aE LA H 34 T) (AS:T.cells=iA x.ts) (dE:Bool)
  (EP:x.ds.length<=400/\∀p∈x.ds,0<=p.1/\p.1<=400) (sD:0<x.ts.length/\x.ts.length<=100/\∀t∈x.ts,0<=t/\t<86400) (Ia:0<=x.fy/\x.fy<=320000000000/\x.fy%86400=0) (uF:r.sp.length<=100/\∀p∈r.sp,-1000<=p/\p<=1000):
  En.T (cx w W f103.ntmps (KA fE) 26 G g) ((f103.body.bind (zH 4)).getD .skip) [(0, .u (.p 0 0)),(2, .u (.p 1 0)),(5, .u (.s 36 0 x.ds.length)),(6, .u (B dE)),(10, .u (.v (.slice none 0 0))),(371, .u (.s 2 0 r.sp.length)),(372, .u (I r.sp.length)),(373, .u (I 0))]
   (gH x r len T) 37
   (yE (cx w W f103.ntmps (KA fE) 26 G g) [(0, .u (.p 0 0)),(2, .u (.p 1 0)),(6, .u (B dE)),(10, .u (.s 37 0 (YF x r.sp).length))] ([(37,some (.X 2 51 (iA (YF x r.sp))))]++gH x r len T) 38 Q):=by
 refine aG 10 2 51 rfl ?_
 repeat' (first
  |refine tk ?_
  |refine CA ?_|refine an ?_ ?_|(intro Z;try simp at Z))
 refine FB (zr x r len T dE) (λk=>r.sp.length-k.1) ?_ ?_
 ·exact⟨⟨0,Nat.zero_le _⟩,[],U,eN eF ⟨bD rfl rfl,hT _ _ rfl rfl,eH⟩⟩
 ·rintro⟨k,hk⟩
  intro F H Y hF hH hn;dsimp only[zr]at hF hH hn;subst hF hH hn
  have zf:=uT x r.sp k
  rcases Nat.lt_or_ge k r.sp.length with fA|IF
  ·obtain⟨pos,HE⟩:∃pos,r.sp.getD k 0=pos:=⟨_,rfl⟩
   have KX:pos∈r.sp:=by rw[<-HE,List.getD_eq_getElem?_getD,List.getElem?_eq_getElem fA];exact List.getElem_mem fA
   have hpr:=uF.2 _ KX
   have RE:=Em (x:=x) fA
   rw[HE]at RE
   obtain⟨P,hP⟩:∃P,YF x (r.sp.take k)=P:=⟨_,rfl⟩
   rw[hP]at RE zf⊢
   obtain⟨a,ha⟩:∃a,a=if pos<0 then pos else pos-1:=⟨_,rfl⟩
   have har: -1001<=a/\a<=1000:=by rw[ha];split<;>omega
   have Ja:=sD.1
   have Ag:=wO a x.ts.length O O
   obtain⟨dp,Bg⟩:∃dp,dp=a/(x.ts.length:Int):=⟨_,rfl⟩
   obtain⟨tp,Cg⟩:∃tp,tp=a%(x.ts.length:Int):=⟨_,rfl⟩
   have XFA:0<=tp/\tp<x.ts.length:=by rw[Cg];exact⟨Int.emod_nonneg _ O,Int.emod_lt_of_pos _ O⟩
   have YFA: -1001<=dp/\dp<=1000:=by
    rw[Bg];exact lAA har O
   rw[<-Bg,<-Cg]at Ag
   have nAA:pos<0->Fn prog 99 [I pos,I x.ts.length] [] 0 (.jA [I dp,I tp]) [] 0:=λh=>by rw[if_pos h]at ha;rw[<-ha];exact Ag
   have oAA:0<=pos->Fn prog 99 [I (pos-1),I x.ts.length] [] 0 (.jA [I dp,I tp]) [] 0:=λh=>by rw[if_neg O]at ha;rw[<-ha];exact Ag
   repeat' (first
    |refine EQ 6 ?_
    |refine pC (x:= .seq (.region 21 _ _) _) [(0, .u (.p 0 0)),(2, .u (.p 1 0)),(5, .u (.s 36 0 x.ds.length)),(6, .u (B dE)),(10, .u (.s 37 0 P.length)),(371, .u (.s 2 0 r.sp.length)),(372, .u (I r.sp.length)),(373, .u (I k)),(12, .u (I pos)),(13, .u (I dp)),(14, .u (I tp))] ([(37,some (.X 2 51 (iA P)))]++gH x r len T) 38 ?_ ?_
    |refine tk ?_
    |refine XD k O O HE ?_
    |refine And.intro (λZ=> ?_) UD
    |refine cz 99 func99 (λ_=>nAA (by assumption)) ?_
    |refine cz 99 func99 (λ_=>oAA (by assumption)) ?_
    |refine CA ?_|refine an ?_ ?_|(intro Z;try simp at Z))
   ·exact⟨[],eN eF ⟨bD rfl rfl,hT _ _ rfl rfl,eH⟩⟩
   ·exact⟨[],eN eF ⟨bD rfl rfl,hT _ _ rfl rfl,eH⟩⟩
   ·refine Stop.mk (aG 15 1 3 rfl ?_)
    repeat' (first
     |refine tk ?_
     |refine CA ?_|refine an ?_ ?_|(intro Z;try simp at Z))
    refine FB (As x r len T dE k pos dp tp P) (λq=>x.ds.length-q.1) ?_ ?_
    ·exact⟨⟨0,Nat.zero_le _⟩,[],U,eN eF ⟨bD rfl rfl,gA rfl rfl,hT _ _ rfl rfl,eH⟩⟩
    ·rintro⟨q,hq⟩
     intro F H Y hF hH hn;dsimp only[As]at hF hH hn;subst hF hH hn
     have Dg:=A3 (x.ds.take q)
     rw[List.length_take]at Dg
     rcases Nat.lt_or_ge q x.ds.length with BI|LX
     ·obtain⟨i,b,hp⟩:∃i b,x.ds.getD q (0,false)=(i,b):=⟨_,_,rfl⟩
      have DP:=x2 BI hp
      cases b with
      |false=>
       rw[if_neg (by simp),List.append_nil]at DP
       repeat' (first
        |refine tk ?_
        |refine And.intro (λZ=> ?_) UD
        |refine JX q O BI hp λrest=> ?_
        |refine CA ?_|refine an ?_ ?_|(intro Z;try simp at Z))
       exact⟨⟨q+1,BI⟩,[],show x.ds.length- (q+1)<x.ds.length-q by omega,by rw[<-DP];exact eN eF ⟨bD rfl rfl,gA rfl rfl,hT _ _ rfl rfl,eH⟩⟩
      |true=>
       rw[if_pos rfl]at DP
       repeat' (first
        |refine tk ?_
        |refine And.intro (λZ=> ?_) UD
        |refine JX q O BI hp λrest=> ?_
        |refine⟨by simp[JD,rC],wE,O,xE,λ_=>⟨by show _*8<=_;omega,by simp only[maxLen];omega⟩,?_⟩
        |refine CA ?_|refine an ?_ ?_|(intro Z;try simp at Z))
       have e:(A (QF (x.ds.take q))).take ((QF (x.ds.take q)).length*1)++[I i]=A (QF (x.ds.take (q+1))):=by
        rw[DP,Nat.mul_one,List.take_of_length_le (by simp[A])];simp[A]
       exact⟨⟨q+1,BI⟩,[(38,41)],show x.ds.length- (q+1)<x.ds.length-q by omega,eJ [(38,41)] ⟨rfl,rfl,rfl,rfl,rfl,rfl,rfl,rfl,rfl,rfl,rfl,nC (by rw[DP];simp),eF⟩ ⟨bD rfl rfl,gA rfl e,hT _ _ rfl rfl,eH⟩⟩
     ·have tR:x.ds.take q=x.ds:=List.take_of_length_le LX
      rw[tR]at Dg⊢
      obtain⟨DC,hD⟩:∃DC,QF x.ds=DC:=⟨_,rfl⟩
      rw[hD]at Dg⊢
      repeat' (first
       |refine fW 31 ?_
       |refine tk ?_
       |refine And.intro UD (λZ=> ?_)
       |refine CA ?_|refine an ?_ ?_|(intro Z;try simp at Z))
      refine Stop.mk ?_
      obtain⟨kk,oO⟩:∃kk,kk=if dp<0 then dp+DC.length else dp:=⟨_,rfl⟩
      have hDm:∀v∈DC,0<=v/\v<=400:=λv hv=>by
       rw[<-hD]at hv;unfold QF at hv
       obtain⟨p,hp,rfl⟩:=List.mem_map.1 hv
       exact EP.2 p (List.mem_filter.1 hp).1
      have hDl:DC.length<=400:=O
      have WX:KL x DC pos=if 0<=kk/\kk<DC.length then some (x.fy+DC.getD kk.toNat 0*86400+x.ts.getD tp.toNat 0)else none:=by
       unfold KL;simp only[<-ha,<-Bg,<-Cg,<-oO]
      rw[hD]at RE
      by_cases hv:0<=kk/\kk<DC.length
      ·have XX:=T7 DC dp O O (by rw[<-oO];exact hv)
       rw[<-oO]at XX
       obtain⟨i,hi⟩:∃i,DC.getD kk.toNat 0=i:=⟨_,rfl⟩
       have him:=hDm i (by rw[<-hi,List.getD_eq_getElem?_getD,List.getElem?_eq_getElem O];exact List.getElem_mem _)
       obtain⟨t,ht⟩:∃t,x.ts.getD tp.toNat 0=t:=⟨_,rfl⟩
       have bU:t∈x.ts:=by rw[<-ht,List.getD_eq_getElem?_getD,List.getElem?_eq_getElem O];exact List.getElem_mem _
       have htr:=sD.2.2 _ bU
       obtain⟨u,hu⟩:∃u,u=x.fy+i*86400+t:=⟨_,rfl⟩
       rw[if_pos hv,hi,ht,<-hu]at WX
       rw[hi]at XX
       have hN:(x.fy+i*86400)/86400=x.fy/86400+i:=O
       have TQ:=oR (x.fy+i*86400) 0 O
       rw[hN]at TQ
       have cU:=CQ t 0 O
       have JH:=vY (n:=x.fy/86400+i) O
       have eO:oA (x.fy/86400+i)<=20000:=by have:= @OJ (x.fy/86400+i) 20000 (by unfold before;omega);omega
       have vI:=CW (x.fy/86400+i)
       have hda:=mM (x.fy/86400+i)
       have SK:= @OG (oA (x.fy/86400+i)) (KB (x.fy/86400+i))
       have CH:=EN (oA (x.fy/86400+i)) (KB (x.fy/86400+i)) (JC (x.fy/86400+i)) (t%86400/3600) (t%86400/60%60) (t%86400%60) O O O O O O
       have uR:KD (oA (x.fy/86400+i)) (KB (x.fy/86400+i)) (JC (x.fy/86400+i))*86400+t%86400/3600*3600+t%86400/60%60*60+t%86400%60=u:=by
        rw[XK vI,iP];omega
       rw[uR]at CH
       repeat' (first
        |refine tk ?_
        |refine And.intro (λ_=>by dsimp only;omega) ?_
        |refine gf AS tp.toNat O O ht λrest=> ?_
        |refine cr 143 [38] func143 (λ_=>XX) BC ?_
        |refine cz 144 func144 (λ_=>qn x.fy i O O) ?_
        |refine cz 44 func44 (λ_=>TQ) ?_
        |refine cz 45 func45 (λ_=>cU) ?_
        |refine cz 80 func80 (λ_=>CH) ?_
        |refine cz 145 func145 (λ_=>Yn _ _) ?_
        |refine cz 81 func81 (λ_=>sN _ _) ?_
        |(refine WC 146 (.s 37 0 _::_) ?_;refine cA.R [37] func146 rfl rfl (λ_=>I6 P u O) rfl rfl rfl wG rfl ?_)
        |refine⟨(by show P.length*2<=(iA P).length;rw[rC,List.length_map];omega),Nat.le_of_ble_eq_true rfl,O,λ_=>(by intro sv YC;have iB:sv∈[I u,I 0]:=YC;simp at iB;rcases iB with rfl|rfl<;>rfl),λ_=>⟨by show(P.length+1)*16<=140737488355328;omega,by show P.length+1<=maxLen;simp only[maxLen];omega⟩,?_⟩
        |refine CA ?_|refine an ?_ ?_|(intro Z;try simp at Z))
       ·have e:YF x (r.sp.take (k+1))=P++[u]:=by rw[RE,WX];unfold fN;simp only;rw[if_neg (by simpa using Z)]
        have e2:(iA P).take (P.length*2)++[I u,I 0]=iA (P++[u]):=by rw[Nat.mul_comm,qR,List.take_of_length_le qA,LU]
        exact⟨⟨k+1,fA⟩,[(37,42)],show r.sp.length- (k+1)<r.sp.length-k by omega,eJ [(37,42)] ⟨rfl,rfl,rfl,rfl,nC (by show P.length+1=_;rw[e];simp),eF⟩ ⟨bD rfl (by rw[e];exact e2),hT _ _ rfl rfl,eH⟩⟩
       ·have e:YF x (r.sp.take (k+1))=P:=by rw[RE,WX];unfold fN;simp only;rw[if_pos (by simpa using Z)]
        exact⟨⟨k+1,fA⟩,[],show r.sp.length- (k+1)<r.sp.length-k by omega,eN ⟨rfl,rfl,rfl,rfl,nC (by rw[e]),eF⟩ ⟨bD rfl (by rw[e]),hT _ _ rfl rfl,eH⟩⟩
      ·have XX:=V7 DC dp O O (by rw[<-oO];exact hv)
       rw[if_neg hv]at WX
       repeat' (first
        |refine tk ?_
        |(refine AB 143 ?_;refine cA.F [38] func143 rfl rfl (λ_=>XX) rfl rfl (λ_=>⟨mS,U⟩) rfl rfl ?_)
        |refine CA ?_|refine an ?_ ?_|(intro Z;try simp at Z))
       have e:YF x (r.sp.take (k+1))=P:=by rw[RE,WX];rfl
       exact⟨⟨k+1,fA⟩,[],show r.sp.length- (k+1)<r.sp.length-k by omega,eN ⟨rfl,rfl,rfl,rfl,nC (by rw[e]),eF⟩ ⟨bD rfl (by rw[e]),hT _ _ rfl rfl,eH⟩⟩
  ·have hke:r.sp.take k=r.sp:=List.take_of_length_le IF
   rw[hke]
   repeat' (first
    |refine tk ?_
    |refine And.intro UD (λZ=> ?_)
    |refine CA ?_|refine an ?_ ?_|(intro Z;try simp at Z))
   exact⟨[],eN eF ⟨bD rfl rfl,hT _ _ rfl rfl,eH⟩⟩
theorem pAA {L:List Int} {q:Nat} (h:q<L.length):L.drop q=L.getD q 0::L.drop (q+1):=by
 rw[List.drop_eq_getElem_cons h,List.getD_eq_getElem?_getD,List.getElem?_eq_getElem h];rfl
def Bs (x:IT) (r:RR) (len:Int) (T:DA) (dE:Bool) (R:List Int×Int×Bool) (L:List Int):MB {s:Nat×List Int×Int//s.1<=L.length/\0<=s.2.2/\s.2.2<=1000/\s.2.1.length<=s.1/\zE r.dt r.XA (L.drop s.1) s.2.1 s.2.2=R}where
 F s:=[(0, .u (.p 0 0)),(2, .u (.p 1 0)),(6, .u (B dE)),(470, .u (.s 37 0 L.length)),(471, .u (I L.length)),(472, .u (I s.1.1))]
 H s:=[(37,some (.X 2 51 (iA L)))]++gH (oX x s.1.2.1 s.1.2.2) r len T
 n s:=38
theorem qAA {w:World} {W:Nat->Prop} {G:wA} {g:GW w W} {Q:QT} (x:IT) (r:RR) (len:Int) (T:DA) (hT:∀LA H,WA H 34=some T->LA 34=34->aE LA H 34 T) (dE:Bool) (L:List Int) (R:List Int×Int×Bool)
  (hL:L.length<=200) (TG:x.so=0) (oB:x.sl=0) (hc:0<=x.count/\x.count<=1000) (NN:0<=x.total/\x.total<=1000000000000000000) (hR:zE r.dt r.XA L [] x.count=R) (aU:1<=r.XA/\0<=r.un)
  (yN:∀F H Y,R.2.2=true->(∃l,OA (cx w W f103.ntmps (KA fE) 26 G g) l [] H Y [] (ZU (nD x.st R.1) R.1.length) 27)->Q .ret F H Y):
  En.T (cx w W f103.ntmps (KA fE) 26 G g) ((f103.body.bind (zH 8)).getD .skip) [(0, .u (.p 0 0)),(2, .u (.p 1 0)),(6, .u (B dE)),(470, .u (.s 37 0 L.length)),(471, .u (I L.length)),(472, .u (I 0))]
   ([(37,some (.X 2 51 (iA L)))]++gH x r len T) 38
   (Ha (cx w W f103.ntmps (KA fE) 26 G g) (R.2.2=false) [(0, .u (.p 0 0)),(2, .u (.p 1 0)),(6, .u (B dE))] (gH (oX x R.1 R.2.1) r len T) 37 Q):=by
 have e0:oX x [] x.count=x:=by
  obtain⟨y,m,d,hh,mi,s,wd,ly,lm,yl,dG,fy,yw,mm,mr,md,nd,XC,wn,nw,ea,ts,total,count,st,so,sl,fin,ds⟩:=x
  dsimp only at TG oB
  subst TG oB
  simp[oX,Dm]
 repeat' (first
  |refine tk ?_
  |refine CA ?_|refine an ?_ ?_|(intro Z;try simp at Z))
 refine FB (Bs x r len T dE R L) (λs=>L.length-s.1.1) ?_ ?_
 ·refine⟨⟨(0,[],x.count),Nat.zero_le _,hc.1,hc.2,by simp,hR⟩,[],U,eN eF ?_⟩
  show lC _ _ ([(37,some (.X 2 51 (iA L)))]++gH (oX x [] x.count) r len T)
  rw[e0]
  exact⟨bD rfl rfl,hT _ _ rfl rfl,eH⟩
 ·rintro⟨⟨q,E,c⟩,g1,g2,g3,g4,g5⟩
  intro F H Y hF hH hn;dsimp only[Bs]at hF hH hn;subst hF hH hn
  dsimp only at g1 g2 g3 g4 g5
  rcases Nat.lt_or_ge q L.length with BI|LX
  ·obtain⟨u,hu⟩:∃u,L.getD q 0=u:=⟨_,rfl⟩
   rw[pAA BI,hu]at g5
   unfold zE at g5
   have IC:=IW x.st E
   repeat' (first
    |refine HD ?_
    |refine AD (t:=489) (decide (r.XA<u)) rfl (Ir aU) ?_
    |refine AD (t:=506) (decide (r.dt<=u)) rfl (Jr _ _) ?_
    |refine tk ?_
    |refine And.intro (λZ=> ?_) UD
    |refine And.intro (λ_=>by show zA (x.total+(E.length:Int)+1);unfold zA;omega) ?_
    |refine And.intro (λ_=>by show zA (c-1);unfold zA;omega) ?_
    |refine gf (T:= .X 2 51 (iA L)) rfl q O BI hu λrest=> ?_
    |refine cz 41 func41 (λ_=>DM r.XA r.un) ?_
    |refine cz 147 func147 (λ_=>Zn u 0 r.XA r.un) ?_
    |refine cz 148 func148 (λ_=>UZ u 0 r.dt 0) ?_
    |refine call149 {oX x E c with total:=x.total+E.length+1} u rfl IC (by show E.length<=_;omega) rfl rfl rfl rfl rfl rfl ?_
    |refine CA ?_|refine an ?_ ?_|(intro Z;try simp at Z))
   ·rw[if_pos Z]at g5
    subst g5
    exact⟨RK 0 (List.replicate 26 (.any λ_=>True)++[.s 35 0 E.length, .s 35 0 (nD x.st E).length,B true, .any λ_=>True]) rfl RQ (PD (yN _ _ _ rfl ⟨[(26,35)],eL _ trivial eH⟩))⟩
   ·have GL:c=1:=by have:c-1=0:=Z;omega
    have n1:¬r.XA<u:=by simp at*;omega
    have n2:¬u<r.dt:=by simp at*;omega
    rw[if_neg n1,if_neg n2,if_pos GL]at g5
    subst g5
    exact⟨RK 0 (List.replicate 26 (.any λ_=>True)++[.s 39 0 (E.length+1), .s 39 0 ((nD x.st E).take E.length++[u]).length,B true, .any λ_=>True]) rfl RQ (PD (yN _ _ _ rfl (by rw[show(E++[u]).length=E.length+1 by simp,<-aR];exact⟨[(26,39)],eL _ trivial eH⟩)))⟩
   ·have GL:¬c=1:=by intro h;exact Z (by show c-1=0;omega)
    have ZG:¬c=0:=by assumption
    have n1:¬r.XA<u:=by simp at*;omega
    have n2:¬u<r.dt:=by simp at*;omega
    rw[if_neg n1,if_neg n2,if_neg GL,if_neg ZG]at g5
    refine⟨⟨(q+1,E++[u],c-1),BI,by show 0<=c-1;omega,by show c-1<=1000;omega,by show(E++[u]).length<=_;simp;omega,g5⟩,[(35,39)],show L.length- (q+1)<L.length-q by omega,eJ [(35,39)] eF ⟨bD rfl rfl,hT _ _ rfl rfl,Ga x E c u (c-1) 39,rfl,gA rfl rfl,gA rfl rfl,gA rfl rfl,gA rfl rfl,gA rfl rfl,gA rfl rfl,gA rfl rfl,gA rfl rfl,bD rfl (by show iA ((nD x.st E).take E.length++[u])=_;rw[aR];rfl),eH⟩⟩
   ·have ZG:c=0:=Z
    subst ZG
    have n1:¬r.XA<u:=by simp at*;omega
    have n2:¬u<r.dt:=by simp at*;omega
    rw[if_neg n1,if_neg n2,if_neg O,if_pos rfl]at g5
    refine⟨⟨(q+1,E++[u],0),BI,Int.le_refl 0,by show(0:Int)<=1000;omega,by show(E++[u]).length<=_;simp;omega,g5⟩,[(35,39)],show L.length- (q+1)<L.length-q by omega,eJ [(35,39)] eF ⟨bD rfl rfl,hT _ _ rfl rfl,Ga x E 0 u 0 39,rfl,gA rfl rfl,gA rfl rfl,gA rfl rfl,gA rfl rfl,gA rfl rfl,gA rfl rfl,gA rfl rfl,gA rfl rfl,bD rfl (by show iA ((nD x.st E).take E.length++[u])=_;rw[aR];rfl),eH⟩⟩
   ·have n1:¬r.XA<u:=by simp at*;omega
    rw[if_neg n1,if_pos Z]at g5
    refine⟨⟨(q+1,E,c),BI,g2,g3,by show E.length<=q+1;omega,g5⟩,[],show L.length- (q+1)<L.length-q by omega,eN eF ⟨bD rfl rfl,hT _ _ rfl rfl,eH⟩⟩
  ·have hq:L.drop q=[]:=List.drop_of_length_le LX
   rw[hq]at g5
   have g5:(E,c,false)=R:=g5
   repeat' (first
    |refine tk ?_
    |refine And.intro UD (λZ=> ?_)
    |refine CA ?_|refine an ?_ ?_|(intro Z;try simp at Z))
   subst g5
   exact⟨[],rfl,eN eF ⟨hT _ _ rfl rfl,eH⟩⟩
theorem JS {w:World} {W:Nat->Prop} {G:wA} {g:GW w W} {Q:QT} (x:IT) (r:RR) (len:Int) (T:DA) (hT:∀LA H,WA H 34=some T->LA 34=34->aE LA H 34 T) (AS:T.cells=iA x.ts) (dE:Bool) (R:List Int×Int×Bool)
  (EP:x.ds.length<=400/\∀p∈x.ds,0<=p.1/\p.1<=400) (sD:x.ts.length<=100/\∀t∈x.ts,0<=t/\t<86400) (Ia:0<=x.fy/\x.fy<=320000000000/\x.fy%86400=0) (uF:r.sp.length<=100/\∀p∈r.sp,-1000<=p/\p<=1000) (TG:x.so=0) (oB:x.sl=0) (hc:0<=x.count/\x.count<=1000) (NN:0<=x.total/\x.total<=1000000000000000000) (hR:zE r.dt r.XA (TH r.sp x) [] x.count=R) (aU:1<=r.XA/\0<=r.un)
  (yN:∀F H Y,R.2.2=true->(∃l,OA (cx w W f103.ntmps (KA fE) 26 G g) l [] H Y [] (ZU (nD x.st R.1) R.1.length) 27)->Q .ret F H Y):
  En.T (cx w W f103.ntmps (KA fE) 26 G g) ((f103.body.bind (ID 15)).getD .skip) [(0, .u (.p 0 0)),(2, .u (.p 1 0)),(5, .u (.s 36 0 x.ds.length)),(6, .u (B dE))]
   (gH x r len T) 37
   (Ha (cx w W f103.ntmps (KA fE) 26 G g) (R.2.2=false) [(0, .u (.p 0 0)),(2, .u (.p 1 0)),(6, .u (B dE))] (gH (oX x R.1 R.2.1) r len T) 37 Q):=by
 by_cases hp:r.sp≠[]/\x.ts≠[]
 ·have Eg:zE r.dt r.XA (YE (YF x r.sp)) [] x.count=R:=by rw[<-hR];unfold TH;rw[if_pos hp]
  have zf:=uT x r.sp r.sp.length
  rw[List.take_length]at zf
  have e4:(YE (YF x r.sp)).length=(YF x r.sp).length:=List.length_mergeSort _
  repeat' (first
   |refine cT 367 rfl (by obtain⟨D,h2⟩:=hp;have D:=List.length_pos_iff.2 D;have h2:=List.length_pos_iff.2 h2;simp;omega) ?_
   |refine FJ (x:= .block 4 _) (mAA x r len T hT AS dE EP ⟨List.length_pos_iff.2 hp.2,sD⟩ Ia uF) (eN eF ⟨hT _ _ rfl rfl,eH⟩) ?_
   |refine EQ 8 ?_
   |refine tk ?_
   |(refine AB 82 ?_;refine cA.T (d:=(YF x r.sp).toArray) (d':=(YE (YF x r.sp)).toArray) 37 func82 rfl rfl (λ_=>bW (YF x r.sp) rfl O) rfl rfl rfl (λ_=>rfl) ?_)
   |refine CA ?_|refine an ?_ ?_|(intro Z;try simp at Z))
  ·exact⟨pK (qAA x r len T hT dE (YE (YF x r.sp)) R O TG oB hc NN Eg aU yN) (eN ⟨rfl,rfl,rfl,nC e4.symm,bB (by rw[e4]),rfl,U⟩ ⟨bD rfl rfl,hT _ _ rfl rfl,eH⟩)⟩
  ·exact absurd (Z hp.1) hp.2
 ·have Eg:zE r.dt r.XA (yG x x.ds) [] x.count=R:=by rw[<-hR];unfold TH;rw[if_neg hp]
  repeat' (first
   |refine cF 367 rfl (by by_cases h:r.sp=[];simp[h];by_cases h2:x.ts=[];simp[h2];exact absurd ⟨h,h2⟩ hp) ?_
   |refine EQ 10 ?_
   |refine tk ?_
   |refine CA ?_|refine an ?_ ?_|(intro Z;try simp at Z))
  all_goals first|exact⟨pK (x9 x r len T hT AS dE R EP sD Ia TG oB hc NN Eg aU yN) (eN eF ⟨hT _ _ rfl rfl,eH⟩)⟩|exact absurd Z hp
theorem HP (r:RR) (x:IT) (l:List (Int×Bool)) (j:Nat):(RG r x l j).length=l.length:=by simp[RG];omega
theorem Cs {r:RR} {x:IT} {l:List (Int×Bool)} {j:Nat} (h:j<l.length):(RG r x l j).getD j (0,false)=l.getD j (0,false):=by
 have e:((l.take j).map (λp=>(p.1,!jF r x p.1.toNat))).length=j:=by simp;omega
 unfold RG
 rw[List.getD_eq_getElem?_getD,List.getElem?_append_right O,e,Nat.sub_self,List.getElem?_drop,List.getD_eq_getElem?_getD];simp
theorem rAA {r:RR} {x:IT} {l:List (Int×Bool)} {j:Nat} (h:j<l.length) {i:Int} (hi:l.getD j (0,false)=(i,true)):RG r x l (j+1)=if jF r x i.toNat then(RG r x l j).set j (((RG r x l j).getD j (0,false)).1,false)else RG r x l j:=by
 rw[Cs h,hi]
 have e:((l.take j).map (λp=>(p.1,!jF r x p.1.toNat))).length=j:=by simp;omega
 have hg:l[j]=(i,true):=by rw[List.getD_eq_getElem?_getD,List.getElem?_eq_getElem h]at hi;exact hi
 unfold RG
 rw[List.take_succ_eq_append_getElem h,List.map_append,hg,List.drop_eq_getElem_cons h,hg]
 simp only[List.map_cons,List.map_nil,List.append_assoc,List.cons_append,List.nil_append]
 split
 ·rename_i Z
  rw[List.set_append_right _ _ O,e,Nat.sub_self,Z];rfl
 ·rename_i Z
  rw[Bool.not_eq_true]at Z
  rw[Z];rfl
theorem sAA {r:RR} {x:IT} {l:List (Int×Bool)} {j:Nat} (h:j<l.length):tM r x l (j+1)=(tM r x l j||jF r x (l.getD j (0,false)).1.toNat):=by
 unfold tM
 rw[List.take_succ_eq_append_getElem h,List.any_append,List.getD_eq_getElem?_getD,List.getElem?_eq_getElem h];simp
def Ds (x:IT) (r:RR) (len:Int) (T:DA) (l:List (Int×Bool)):MB {j:Nat//j<=l.length}where
 F j:=[(0, .u (.p 0 0)),(2, .u (.p 1 0)),(5, .u (.s 36 0 l.length)),(6, .u (B (tM r x l j.1))),(98, .u (.s 36 0 l.length)),(99, .u (I l.length)),(100, .u (I j.1))]
 H j:=gH {x with ds:=RG r x l j.1} r len T
 n j:=37
theorem KS {w:World} {W:Nat->Prop} {G:wA} {g:GW w W} {Q:QT} (x:IT) (r:RR) (len:Int) (T:DA) (hT:∀LA H,WA H 34=some T->LA 34=34->aE LA H 34 T) (hr:ef r) (EP:x.ds.length<=400) (hd:∀p∈x.ds,p.2=true/\0<=p.1/\IX r x p.1.toNat):
  En.T (cx w W f103.ntmps (KA fE) 26 G g) ((f103.body.bind (zH 2)).getD .skip) [(0, .u (.p 0 0)),(2, .u (.p 1 0)),(5, .u (.s 36 0 x.ds.length)),(6, .u (B false)),(98, .u (.s 36 0 x.ds.length)),(99, .u (I x.ds.length)),(100, .u (I 0))]
   (gH x r len T) 37
   (yE (cx w W f103.ntmps (KA fE) 26 G g) [(0, .u (.p 0 0)),(2, .u (.p 1 0)),(5, .u (.s 36 0 x.ds.length)),(6, .u (B (tM r x x.ds x.ds.length)))] (gH {x with ds:=RG r x x.ds x.ds.length} r len T) 37 Q):=by
 repeat' (first
  |refine tk ?_
  |refine CA ?_|refine an ?_ ?_|(intro Z;try simp at Z))
 refine FB (Ds x r len T x.ds) (λj=>x.ds.length-j.1) ?_ ?_
 ·exact⟨⟨0,Nat.zero_le _⟩,[],U,eN eF ⟨hT _ _ rfl rfl,eH⟩⟩
 ·rintro⟨j,hj⟩
  intro F H Y hF hH hn;dsimp only[Ds]at hF hH hn;subst hF hH hn
  have dJ:=HP r x x.ds j
  rcases Nat.lt_or_ge j x.ds.length with fA|IF
  ·obtain⟨i,b,hp⟩:∃i b,x.ds.getD j (0,false)=(i,b):=⟨_,_,rfl⟩
   have KX:(i,b)∈x.ds:=by rw[<-hp,List.getD_eq_getElem?_getD,List.getElem?_eq_getElem fA];exact List.getElem_mem fA
   obtain⟨jD,DH,PM⟩:=hd _ KX
   dsimp only at jD DH PM
   subst jD
   have Sa:(RG r x x.ds j).getD j (0,false)=(i,true):=by rw[Cs fA,hp]
   obtain⟨k,hk⟩:∃k:Nat,i=k:=⟨i.toNat,O⟩
   subst hk
   have hfk:IX r {x with ds:=RG r x x.ds j} k:=⟨PM.le,PM.mm,PM.md,PM.nd,PM.wd,PM.yw,PM.wn,PM.nw,PM.ea,PM.yl,PM.dG⟩
   have e1:=rAA (r:=r) (x:=x) fA hp
   have e2:=sAA (r:=r) (x:=x) fA
   rw[hp]at e2
   have RN:∀Q,_:=λQ=>u9 (Q:=Q) (w:=w) (W:=W) (G:=G) (g:=g) {x with ds:=RG r x x.ds j} r len T hT (tM r x x.ds j) j k hfk hr (by rw[dJ];exact fA) (by rw[dJ];exact EP)
   dsimp only at RN
   rw[dJ]at RN
   have hbk:jF r {x with ds:=RG r x x.ds j} k=jF r x k:=rfl
   rw[hbk]at RN
   rw[show(k:Int).toNat=k from rfl]at e1 e2
   rw[<-e1,<-e2]at RN
   repeat' (first
    |refine FQ (x:= .seq (.region 11 _ _) _) (RN _) (eN eF ⟨hT _ _ rfl rfl,eH⟩) ?_
    |refine tk ?_
    |refine And.intro (λZ=> ?_) UD
    |refine JX j O (by rw[dJ];exact fA) Sa λrest=> ?_
    |refine CA ?_|refine an ?_ ?_|(intro Z;try simp at Z))
   exact⟨⟨j+1,fA⟩,[],show x.ds.length- (j+1)<x.ds.length-j by omega,eN eF ⟨hT _ _ rfl rfl,eH⟩⟩
  ·have zO:j=x.ds.length:=O
   subst zO
   repeat' (first
    |refine tk ?_
    |refine And.intro (λZ=>absurd Z (by simp)) (λZ=> ?_)
    |refine CA ?_|refine an ?_ ?_|(intro Z;try simp at Z))
   exact⟨[],eN eF ⟨hT _ _ rfl rfl,eH⟩⟩
theorem call48 {C:Cx} {H:HS} {Y:Nat} {c0:Bool} {k:QD->Prop} {fn:Func} (x:IT) (r:RR) (len y m:Int) (hy:2<=y/\y<=15000) (hm:1<=m/\m<=12) (hx:y=x.ly->Fa x y) (hr:RB r) (hf:prog.funcs[48]? =some fn) (hP:C.P=prog) (Z:fn.body.isNone=false)
  (dB:MI MG (QQ x r len) 26 34 Y=true) (hH:NI (mp MG 26 34 Y) H (QQ x r len))
  (hk:k ⟨.jA [],[(0,some (.st (XB (EF x r y m) Y (Y+1) (Y+2) (Y+3) (Y+4) (Y+5) (Y+6) (Y+7) 34 35 36))),(26,none),(27,none),(28,none),(29,none),(30,none),(31,none),(32,none),(33,none),(Y,some (.X 1 3 (A (EF x r y m).mm))),(Y+1,some (.X 1 3 (A (EF x r y m).mr))),(Y+2,some (.X 1 3 (A (EF x r y m).md))),(Y+3,some (.X 1 3 (A (EF x r y m).nd))),(Y+4,some (.X 1 3 (A (EF x r y m).XC))),(Y+5,some (.X 1 3 (A (EF x r y m).wn))),(Y+6,some (.X 1 3 (A (EF x r y m).nw))),(Y+7,some (.X 1 3 (A (EF x r y m).ea)))],Y+8+1,MG⟩):cA C 48 [.p 0 7,I y,I m] H Y c0 k:=
 cA.F MG hf hP Z (λ_=>by
   by_cases e:y=x.ly
   ·exact o9 x r len y m hy hm (hx e) hr
   ·exact Gr x r len y m hy hm e hr) dB rfl (λ_=>hH) (s:= .jA []) rfl
  (wh:=[(0,some (.st (XB (EF x r y m) Y (Y+1) (Y+2) (Y+3) (Y+4) (Y+5) (Y+6) (Y+7) 34 35 36))),(26,none),(27,none),(28,none),(29,none),(30,none),(31,none),(32,none),(33,none),(Y,some (.X 1 3 (A (EF x r y m).mm))),(Y+1,some (.X 1 3 (A (EF x r y m).mr))),(Y+2,some (.X 1 3 (A (EF x r y m).md))),(Y+3,some (.X 1 3 (A (EF x r y m).nd))),(Y+4,some (.X 1 3 (A (EF x r y m).XC))),(Y+5,some (.X 1 3 (A (EF x r y m).wn))),(Y+6,some (.X 1 3 (A (EF x r y m).nw))),(Y+7,some (.X 1 3 (A (EF x r y m).ea)))])
  (by
   show[(0,some (DA.st (YA _ (af (EF x r y m))))),(26,none),(27,none),(28,none),(29,none),(30,none),(31,none),(32,none),(33,none),(Y+0,some (DA.X 1 3 (YA _ (A _)))),(Y+1,some (DA.X 1 3 (YA _ (A _)))),(Y+2,some (DA.X 1 3 (YA _ (A _)))),(Y+3,some (DA.X 1 3 (YA _ (A _)))),(Y+4,some (DA.X 1 3 (YA _ (A _)))),(Y+5,some (DA.X 1 3 (YA _ (A _)))),(Y+6,some (DA.X 1 3 (YA _ (A _)))),(Y+7,some (DA.X 1 3 (YA _ (A _))))]=_
   simp only[kD];rfl) hk
theorem tAA {x:IT} {r:RR} {len:Int} {T:DA} {Y:Nat}:NI (mp MG 26 34 Y) (gH x r len T) (QQ x r len):=by
 refine⟨rfl,⟨_,[],rfl,by simp[DA.cells];rfl⟩,?_⟩
 refine⟨wB,wB,wB,wB,wB,wB,wB,wB,?_⟩
 exact⟨mS,mS,mS,mS,U⟩
theorem uAA (r:RR) (c c':CR) {y:Int} (h:y=c.y):Fa (sC (QA r c) c') y:=by
 subst h;exact⟨rfl,rfl,rfl,rfl,rfl,rfl,rfl,rfl,rfl,rfl⟩
theorem vAA (r:RR) (y:Int) (ea:List Int) (h:r.be.length=0->ea=[]):nF r y ea=nF r y []:=by
 unfold nF;split
 ·rename_i h0;exact h h0
 ·rfl
theorem wAA (r:RR) (c c':CR):EF (sC (QA r c) c') r c'.y c'.m=QA r c':=by
 have iY:nF r c'.y (nF r c.y [])=nF r c'.y []:=vAA r _ _ λh=>by unfold nF;rw[if_pos h]
 unfold EF zR
 by_cases e:c'.y=c.y
 ·have e1:c'.y=(sC (QA r c) c').ly:=e
  rw[if_pos e1]
  have xG:FH (sC (QA r c) c') r c'.y c'.m=BG r c'.y c'.m:=by
   unfold FH BG
   by_cases h0:0<r.vA.length
   ·rw[if_pos h0]
    by_cases D:c'.m≠(sC (QA r c) c').lm\/c'.y≠(sC (QA r c) c').ly
    ·rw[if_pos ⟨h0,D⟩,e];rfl
    ·rw[if_neg (λh=>D h.2)]
     have h2:c'.m=c.m:=by
      by_cases h3:c'.m=c.m
      ·exact h3
      ·exact absurd (Or.inl h3) D
     rw[h2,e];show BG r c.y c.m=_;unfold BG;rw[if_pos h0]
   ·rw[if_neg (λh=>h0 h.1),if_neg h0];show BG r c.y c.m=_;unfold BG;rw[if_neg h0]
  rw[xG]
  show(IT.mk _ _ _ _ _ _ _ _ _ _ _ _ _ _ _ _ _ _ _ _ (nF r c'.y (nF r c.y [])) _ _ _ _ _ _ _ _)=_
  rw[iY]
  unfold QA sC;simp only[e]
 ·have e1:¬c'.y=(sC (QA r c) c').ly:=e
  rw[if_neg e1]
  have xG:FH {MN (sC (QA r c) c') c'.y with wn:=eG r c'.y} r c'.y c'.m=BG r c'.y c'.m:=by
   unfold FH BG
   by_cases h0:0<r.vA.length
   ·rw[if_pos h0,if_pos ⟨h0, .inr e1⟩];rfl
   ·rw[if_neg (λh=>h0 h.1),if_neg h0];show BG r c.y c.m=_;unfold BG;rw[if_neg h0]
  rw[xG]
  show(IT.mk _ _ _ _ _ _ _ _ _ _ _ _ _ _ _ _ _ _ _ _ (nF r c'.y (nF r c.y [])) _ _ _ _ _ _ _ _)=_
  rw[iY];rfl
structure FO (r:RR):Prop where
 rb:RB r
 lo:ef r
 sp:r.sp.length<=100/\∀p∈r.sp,-1000<=p/\p<=1000
 XA:1<=r.XA/\0<=r.un
 EA:1<=r.EA/\r.EA<=1000
structure Live (r:RR) (c:CR):Prop where
 y:2<=c.y/\c.y<=9999
 m:1<=c.m/\c.m<=12
 d:1<=c.d/\c.d<=31
 hh:0<=c.hh/\c.hh<=23
 mi:0<=c.mi/\c.mi<=59
 s:0<=c.s/\c.s<=59
 wd:0<=c.wd/\c.wd<=6
 ts:c.ts.length<=100/\∀t∈c.ts,0<=t/\t<86400
 AN:0<=c.total
 count:0<=c.count/\c.count<=1000
 so:c.sl=0->c.so=0
def QM (x:IT) (r:RR) (len:Int):HS:=[(0,some (.st (kE x))),(1,some (.st (QE r len))),(15,some (.X 1 3 (A x.mm))),(16,some (.X 1 3 (A x.mr))),(17,some (.X 1 3 (A x.md))),(18,some (.X 1 3 (A x.nd))),(19,some (.X 1 3 (A x.XC))),(20,some (.X 1 3 (A x.wn))),(21,some (.X 1 3 (A x.nw))),(22,some (.X 1 3 (A x.ea))),
 (23,some (.X 2 51 (iA x.ts))),(24,some (.X 2 51 (iA x.st))),(25,some (.X 2 194 (uC x.ds)))]++kZ r
def Fg (x:IT) (r:RR) (len:Int):HS:=[(0,some (.st (HX x))),(1,some (.st (QE r len))),(26,some (.X 1 3 (A x.mm))),(27,some (.X 1 3 (A x.mr))),(28,some (.X 1 3 (A x.md))),(29,some (.X 1 3 (A x.nd))),(30,some (.X 1 3 (A x.XC))),(31,some (.X 1 3 (A x.wn))),(32,some (.X 1 3 (A x.nw))),(33,some (.X 1 3 (A x.ea))),
 (34,some (.X 2 51 (iA x.ts))),(35,some (.X 2 51 (iA x.st))),(36,some (.X 2 194 (uC x.ds)))]
def WQ (r:RR) (len:Int):CR⊕(List Int×Nat)->HS
 | .inl c=>Fg (QA r c) r len
 | .inr p=>ZU p.1 p.2
def gN:CR⊕(List Int×Nat)->Nat
 | .inl _=>37
 | .inr _=>27
abbrev fC (c:CR):DA:= .X 2 51 (iA c.ts)
theorem uK (l:List Int):∀LA H,WA H 34=some (.X 2 51 (iA l))->LA 34=34->aE LA H 34 (.X 2 51 (iA l)):=λLA H h hs=>by
 show WA H (LA 34)=some (.X 2 51 (YA LA (iA l)))
 rw[hs,h,SC]
theorem call142 {C:Cx} {H:HS} {Y:Nat} {c0:Bool} {k:QD->Prop} {fn:Func} (x:IT) (a b:Nat) (xD:a<=b) (hb4:b<=400) (hf:prog.funcs[142]? =some fn) (hP:C.P=prog) (Z:fn.body.isNone=false)
  (dB:MI MG [(0,some (.st (kE x))),(25,some (.X 2 194 (uC x.ds)))] 26 27 Y=true) (h0:WA H 0=some (.st (HX x))) (D:WA H 36=some (.X 2 194 (uC x.ds)))
  (hk:k ⟨.jA [],[(0,some (.st (XB {x with ds:=SD a b} 26 27 28 29 30 31 32 33 34 35 Y))),(36,none),(Y,some (.X 2 194 (uC (SD a b))))],Y+1+1,MG⟩):cA C 142 [.p 0 0,I a,I b] H Y c0 k:=
 cA.F MG hf hP Z (λ_=>Q7 x a b xD hb4) dB rfl (λ_=>⟨h0,by show _=some (DA.X 2 194 (YA _ (uC x.ds)));rw[BK];exact D,U⟩) (s:= .jA []) rfl (wh:=[(0,some (.st (XB {x with ds:=SD a b} 26 27 28 29 30 31 32 33 34 35 Y))),(36,none),(Y,some (.X 2 194 (uC (SD a b))))])
  (by show[(0,some (DA.st (YA _ _))),(36,none),(Y,some (DA.X 2 194 (YA _ (uC _))))]=_;rw[BK];rfl) hk
theorem Fs {a b:Nat} {p:Int×Bool} (h:p∈SD a b):p.2=true/\(a:Int)<=p.1/\p.1<(b:Int):=by
 unfold SD at h
 obtain⟨i,hi,rfl⟩:=List.mem_map.1 h
 have:=List.mem_range'_1.1 hi
 exact⟨rfl,by show(a:Int)<=(i:Int);omega,by show(i:Int)<(b:Int);omega⟩
theorem xAA {r:RR} {x:IT} {l:List (Int×Bool)} {j:Nat} {p:Int×Bool} (h:p∈RG r x l j):∃q∈l,q.1=p.1:=by
 unfold RG at h
 rcases List.mem_append.1 h with h|h
 ·obtain⟨q,hq,rfl⟩:=List.mem_map.1 h
  exact⟨q,List.mem_of_mem_take hq,rfl⟩
 ·exact⟨p,List.mem_of_mem_drop h,rfl⟩
end En
end Go.Proofs.YtkidgehblodbcaaGreatDoor
