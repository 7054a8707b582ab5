/- A part of the proof of FnTextFirst: which rules are asked, walked. -/
import Derived.Test.YtkidgehblodbcaaGreatDoorA17
import Derived.Test.YtkidgehblodbcaaGreatDoorA19
import Derived.Test.YtkidgehblodbcaaGreatDoorA25
set_option linter.all false
set_option maxRecDepth 100000
set_option maxHeartbeats 16000000
namespace Go.Proofs.YtkidgehblodbcaaGreatDoor
namespace En
open Go.RowKit Go.Proofs.Tryz
def Mr (J:MA):MB {i:Nat//i<=J.sA.length/\(J.sA.take i).any (nR J)=false}where
 F i:=[(1, .u (.p 10 0)),(26, .u (.s 4 0 J.sA.length)),(27, .u (I J.sA.length)),(28, .u (I i.1))]
 H i:=jB 0 J++[(10,some (.st (EC 0 J)))]
 n _:=11
theorem AAA {l:List Int} {p:Int->Bool} {i:Nat} (hi:i<l.length) (h:(l.take i).any p=false) (h2:p (l.getD i 0)=false):(l.take (i+1)).any p=false:=by
 rw[List.take_succ_eq_append_getElem hi,List.any_append,h]
 rw[List.getD_eq_getElem?_getD,List.getElem?_eq_getElem hi]at h2
 simpa using h2
theorem BAA {l:List Int} {p:Int->Bool} {i:Nat} (hi:i<l.length) (h2:p (l.getD i 0)=true):l.any p=true:=List.any_eq_true.2 ⟨_,rK hi,h2⟩
theorem CAA (J:MA) (hc:J.Clean) (hn:0<=J.BA):Fn prog 30 [.agg (EC 0 J)] (jB 0 J++[]) 10 (B (BQ J (JM J))) [] 10:=by
 have cb:=BP hc hn
 have IC:=cb.st
 have hit:=cb.EA
 have xH:=hc.BA
 have YL:=cb.ln
 have Yf:=QR J.GA O
 have h56:=YN (J.GA/86400) O
 have Nr:=T9 J hc hn
 obtain⟨p1,e1⟩:∃p,p=(decide (0<J.sA.length)&&(decide (J.FA.length=0)||decide (0<J.TA.length+J.LB.length)||J.sA.any (nR J))):=⟨_,rfl⟩
 obtain⟨p2,e2⟩:∃p,p=(decide (J.BA=2)&&decide (0<J.OB.length)&&decide (J.GA/86400%7≠J.HB)):=⟨_,rfl⟩
 obtain⟨q1,d1⟩:∃p,p=J.FA.any (λd=>d.2 !=0):=⟨_,rfl⟩
 obtain⟨q2,d2⟩:∃p,p=J.FA.any (λd=>d.2==0):=⟨_,rfl⟩
 obtain⟨m,em⟩:∃m,m=JM J:=⟨_,rfl⟩
 have Z:BQ J (JM J)=(p1||p2||(q1&&(q2||decide (0<J.TA.length+J.LB.length+J.sA.length)))|| !m):=by rw[e1,e2,d1,d2,em];rfl
 have Pr:=U1 J.FA O
 have Qr:=Y1 J.FA O
 rw[Z]
 rw[<-em]at Nr
 rw[<-d1]at Pr
 rw[<-d2]at Qr
 clear Z
 refine fm (KA 18889483946015552701559) func30 λw W G g=> ?_
 repeat' (first
  |refine SQ (x:= .seq (.region 1 _ _) _) (p:=p1=false) (l:=[]) (F':=[(1, .u (.p 10 0))]) (H':=jB 0 J++[(10,some (.st (EC 0 J)))]) (n':=11) (F2:=[(1, .u (.p 10 0))]) (H2:=jB 0 J++[(10,some (.st (EC 0 J)))]) (n2:=11) ?_ ?_ (λtL=> ?_)
  |refine FG 1 ?_
  |refine AD (t:=74) p2 rfl (by rw[e2,Bool.eq_iff_iff];simp) (And.intro (λh2=> ?_) (λh2=> ?_))
  |refine tk ?_
  |refine cz 57 func57 (λ_=>Yf) ?_
  |refine cz 56 func56 (λ_=>h56) ?_
  |refine cr 58 [5] func58 (λ_=>Pr) wG ?_
  |refine cr 58 [5] func58 (λ_=>Qr) wG ?_
  |refine cr 61 [0,1,2,3,4,5,6,7,8,9] func61 (λ_=>Nr) (λ_=>ME O rfl rfl rfl rfl rfl rfl rfl rfl rfl rfl U) ?_
  |refine CA ?_|refine an ?_ ?_|(intro Z;try simp at Z))
 ·refine Stop.mk ?_
  by_cases hw:0<J.sA.length
  ·by_cases he:J.FA.length=0\/0<J.TA.length+J.LB.length
   ·have hp:p1=true:=by rw[e1,decide_eq_true hw];rcases he with he|he<;>rw[decide_eq_true he]<;>simp
    subst hp
    repeat' (first
     |refine cT 10 rfl eA ?_
     |refine cT 24 rfl (by generalize J.FA.length=n at he⊢;rw[Bool.eq_iff_iff];simp;omega) ?_
     |refine tk ?_
     |refine CA ?_|refine an ?_ ?_|(intro Z;try simp at Z))
    exact DB rfl UA
   ·skip
    repeat' (first
     |refine cT 10 rfl eA ?_
     |refine cF 24 rfl (by generalize J.FA.length=n at he⊢;rw[Bool.eq_iff_iff];simp;omega) ?_
     |refine tk ?_
     |refine CA ?_|refine an ?_ ?_|(intro Z;try simp at Z))
    refine FB (Mr J) (λi=>J.sA.length-i.1) ?_ ?_
    ·exact⟨⟨0,Nat.zero_le _,rfl⟩,[],U,eN eF AE⟩
    ·rintro⟨i,hi,vD⟩
     intro F H Y hF hH hn;dsimp only[Mr]at hF hH hn;subst hF hH hn
     by_cases fA:i<J.sA.length
     ·obtain⟨v,hv⟩:∃v,J.sA.getD i 0=v:=⟨_,rfl⟩
      rcases Bool.eq_false_or_eq_true (nR J v)with hz|hz
      ·have hp:p1=true:=by rw[e1,decide_eq_true hw,BAA fA (by rw[hv];exact hz)];simp
       subst hp
       unfold nR at hz
       by_cases h52:52<=v\/v<=-52
       ·skip
        repeat' (first
         |refine cT 29 rfl eA ?_
         |refine cT 37 rfl (by rw[Bool.eq_iff_iff];simp;omega) ?_
         |refine tk ?_
         |refine XD i O O hv ?_
         |refine CA ?_|refine an ?_ ?_|(intro Z;try simp at Z))
        exact DB rfl UA
       ·skip
        repeat' (first
         |refine cT 29 rfl eA ?_
         |refine cF 37 rfl (by rw[Bool.eq_iff_iff];simp;omega) ?_
         |refine cT 54 rfl (by generalize J.OB.length=n at hz⊢;rw[Bool.eq_iff_iff];simp at hz⊢;omega) ?_
         |refine tk ?_
         |refine XD i O O hv ?_
         |refine CA ?_|refine an ?_ ?_|(intro Z;try simp at Z))
        exact DB rfl UA
      ·have yQ:=hz
       unfold nR at yQ
       simp only[Bool.or_eq_false_iff,Bool.and_eq_false_iff,decide_eq_false_iff_not]at yQ
       repeat' (first
        |refine cT 29 rfl eA ?_
        |refine cF 37 rfl (by rw[Bool.eq_iff_iff];simp;omega) ?_
        |refine cF 54 rfl (by generalize J.OB.length=n at yQ⊢;rw[Bool.eq_iff_iff];simp;omega) ?_
        |refine tk ?_
        |refine XD i O O hv ?_
        |refine CA ?_|refine an ?_ ?_|(intro Z;try simp at Z))
       exact⟨⟨i+1,fA,AAA fA vD (by rw[hv];exact hz)⟩,[],show J.sA.length- (i+1)<J.sA.length-i by omega,eN eF AE⟩
     ·have hq:i=J.sA.length:=O
      subst hq
      rw[List.take_length]at vD
      repeat' (first
       |refine cF 29 rfl (by simp) ?_
       |refine tk ?_
       |refine CA ?_|refine an ?_ ?_|(intro Z;try simp at Z))
      exact⟨[],by rw[e1,vD,decide_eq_false (show¬J.FA.length=0 by omega),decide_eq_false (show¬0<J.TA.length+J.LB.length by omega)];simp,eN eF AE⟩
  ·skip
   repeat' (first
    |refine cF 10 rfl eA ?_
    |refine tk ?_
    |refine CA ?_|refine an ?_ ?_|(intro Z;try simp at Z))
   exact⟨[],by rw[e1,decide_eq_false hw];rfl,eN eF AE⟩
 ·exact eN eF AE
 ·exact DB (by rw[tL,h2];simp;rfl) UA
 ·have hd:decide ((J.TA.length:Int)+J.LB.length+J.sA.length>0)=decide (0<J.TA.length+J.LB.length+J.sA.length):=by rw[Bool.eq_iff_iff];simp;omega
  rw[hd]
  generalize decide (0<J.TA.length+J.LB.length+J.sA.length)=z
  exact DB (by rw[tL,h2];cases q1<;>cases q2<;>cases z<;>cases m<;>rfl) UA
end En
namespace En
open Go.RowKit
structure sK (C:Cx) (ops l:List Oper) (F Fr:FS) (H:HS) (Y:Nat) (ks:List Key) (K:FS->HS->Nat->List Key->Prop):Prop where
 ok:∀AC:YG,(∀t r,lk Fr t=some r->lk F t=some r)->(∀t,lk Fr t=none->lk F t=AC t)->qb C ops l F H Y ks K AC
section
variable {C:Cx} {ops r:List Oper} {o:Oper} {F Fr:FS} {H:HS} {Y:Nat} {ks:List Key} {K:FS->HS->Nat->List Key->Prop} {d:Nat}
theorem sK.go {l:List Oper} (h:oJ C ops l F Fr H Y ks K):sK C ops l F Fr H Y ks K:=⟨λ_ D h2=>RY h D h2⟩
theorem sK.step (rr:QD) (hg:o.guard=none) (hd:o.dst=some d) (hN:d<C.N) (dB:JB C.P C.w0 C.W C.N o F H Y true rr)
  (h:cP H rr.wh λH'=>sK C ops r ((d, .u rr.s)::F) ((d, .u rr.s)::Fr) H' rr.Y (⟨o,rr.rh,rr.wh.map (·.1)⟩::ks) K):sK C ops (o::r) F Fr H Y ks K:=by
 refine⟨λAC AR hG=> ?_⟩
 obtain⟨H1,h,VO⟩:=OY h
 have hE:ZP C.P C.w0 C.W C.N (List.toArray ops) (lk F) (WA H) ⟨o,some (.u rr.s),rr.rh,rr.wh,Y,rr.Y⟩:=by
  intro F' H' G a w hF hH hu hM
  unfold Step
  rw[if_pos (by simp[Region.wanted,hg])]
  have:=dB.2 rfl F' H' G a w (Xi hF) hH hu hM
  unfold dD at this
  refine Oper.wp_mono ?_ this
  rintro a' w' ⟨y,rfl,uA,he,Z,EL,kH⟩
  exact⟨uA,Z,pb hM he kH (λt e=>by rw[hd]at e;cases e;exact hN) (λq hq=>by cases hq;exact EL) (λe=>by cases e)⟩
 have vG:∀(q:RV) (t:Nat),lk ((d,q)::F) t=MJ (lk F) (some d) (some q) t:=λq t=>by
  simp only[lk,MJ,WE,eq_comm]
 have TT:∀(q:RV) (t:Nat) (x:RV),lk ((d,q)::Fr) t=some x->lk ((d,q)::F) t=some x:=λq t x hx=>by
  simp only[lk]at hx⊢
  by_cases e:d=t
  ·rw[if_pos e]at hx⊢;exact hx
  ·rw[if_neg e]at hx⊢;exact AR t x hx
 have vb:∀(q:RV) (t:Nat),lk ((d,q)::Fr) t=none->lk ((d,q)::F) t=AC t:=λq t hx=>by
  simp only[lk]at hx⊢
  by_cases e:d=t
  ·rw[if_pos e]at hx;cases hx
  ·rw[if_neg e]at hx⊢;exact hG t hx
 obtain⟨Es,OK,H',CD,hK,ho,hL,hp,tG,xb⟩:=h.ok AC (TT _) (vb _)
 have tb:lk ((d,RV.u rr.s)::F)=MJ (lk F) o.dst (some (.u rr.s)):=by rw[hd];exact funext (vG _)
 have hH2:WA H1=ND (WA H) rr.wh:=funext VO
 refine⟨⟨o,some (.u rr.s),rr.rh,rr.wh,Y,rr.Y⟩::Es,OK,H',CD,?_,?_,λi=> ?_,?_,?_,by have:=dB.1;omega⟩
 ·simpa [RD.key,RD.vS]using hK
 ·simp[ho]
 ·obtain⟨l1,l2,l3⟩:=hL (i+1)
  simp only[List.length_cons,List.range'_succ,List.zip_cons_cons,Lex,BL,dM,RD.fF,RD.fH]
  rw[<-tb,<-hH2]
  exact⟨⟨hE,l1⟩,l2,l3⟩
 ·rw[List.pairwise_cons]
  exact⟨λE hE=>(tG E hE).1,hp⟩
 ·intro E hE
  simp only[List.mem_cons]at hE
  rcases hE with rfl|hE
  ·exact⟨Nat.le_refl _,dB.1,xb⟩
  ·have:=tG E hE;have:=dB.1;omega
theorem sK.op (hg:o.guard=none) (hd:o.dst=some d) (hN:d<C.N)
  (h:NY C o F H Y true λrr=>cP H rr.wh λH'=>sK C ops r ((d, .u rr.s)::F) ((d, .u rr.s)::Fr) H' rr.Y (⟨o,rr.rh,rr.wh.map (·.1)⟩::ks) K):sK C ops (o::r) F Fr H Y ks K:=by
 obtain⟨rr,h,dB⟩:=Qi h
 exact sK.step rr hg hd hN dB h
theorem DAA {id:Nat} {Q:QT}
  (h:sK C ops ops F [] H Y [] λFr H' CD _=>dP C.kp Fr F λF'=>Q .normal F' H' CD):T C (.region id (List.toArray ops) false) F H Y Q:=by
 refine⟨λG a w ⟨HI,HF,WO,hM⟩=> ?_⟩
 obtain⟨Es,OK,H',CD,hK,ho,hL,hp,tG,hle⟩:=h.ok (lk F) (λt r e=>by simp[lk]at e) (λt _=>rfl)
 obtain⟨l1,l2,l3⟩:=hL 0
 refine wp_region_lit ?_
 rw[<-ho,<-TY Es 0]
 rw[<-ho,<-TY Es 0]at l1
 exact Lex.run l1 (λx hx b D h2=>HI b (by have:=tG x.2 (List.of_mem_zip hx).2;omega)) (UY hp) hM
  (λuA a' w' Z mJ=>yb (ks:=[]) HI HF WO hK tG hle l2 l3 uA a' w' Z mJ)
theorem EAA (k:Nat) {l:List Oper} {Q:QT} (h:Stop (sK C l l F [] H Y [] λFr H' CD _=>dP C.kp Fr F λF'=>Q .normal F' H' CD)):T C (.region k (List.toArray l) false) F H Y Q:=DAA h.ok
end
def AO (a b:Int):Int:=IntKind.i64.wrap (a*b)
theorem FAA {P:Program} {t:TypeId} {x y:Operand} (a b:Int) (w:World):(do eqGuard .mul t x y (.int .i64 a) (.int .i64 b);binOp .mul t (.int .i64 a) (.int .i64 b):Sem Value).run P w= .ok (.int .i64 (AO a b)) w:=by
 unfold AO
 simp[eqGuard,binOp,Op.intArith]
end En
namespace En
open Go.RowKit Go.Proofs.Tryz
def OM (n:Nat):Int:=if(1:Int)<n then n else 1
def ur (J:MA):Bool:=decide (AO (AO (OM J.SA.length) (OM J.PA.length)) (OM J.RA.length)>60)
noncomputable def EO (J:MA) (N:Nat):List Int×Bool:=
 if(!J.JJ||ur J||FU J)=true then([],false)else((NM J (BQ J (JM J)) N).1,!(NM J (BQ J (JM J)) N).2)
theorem kAA (J:MA) (BD:J.Fits) (hn:0<=J.BA/\J.BA<=255) (N:Nat) (hN:N<=1000):
  Fn prog 5 [.agg (EC 0 J),I N] (jB 0 J++[]) 10 (.jA [.s 10 0 (EO J N).1.length,B (EO J N).2]) [(10,some (.X 1 2 (A (EO J N).1)))] 11:=by
 obtain⟨R,hR⟩:∃R,R=EO J N:=⟨_,rfl⟩
 rw[<-hR]
 have hf:=BD
 obtain⟨q1,q2,q3,q4,q5,q6,q7,q8,q9,q10⟩:=hf
 refine fm (KA 8589935095) func5 λw W G g=> ?_
 obtain⟨mb,xf⟩:∃mb,mb=ur J:=⟨_,rfl⟩
 obtain⟨c,hc⟩:∃c,c=J.JJ:=⟨_,rfl⟩
 obtain⟨lb,oY⟩:∃lb,lb=FU J:=⟨_,rfl⟩
 have DO:=Sl J BD hn
 rw[<-hc]at DO
 repeat' (first
  |refine EAA 1 ?_
  |refine tk ?_
  |refine CA ?_|refine an ?_ ?_|(intro Z;try simp at Z))
 refine Stop.mk ?_
 repeat' (first
  |refine sK.step _ rfl rfl UA (uN (λ_ w=>FAA _ _ w) rfl rfl rfl) ?_
  |refine sK.op rfl rfl UA ?_
  |refine And.intro sd ?_)
 refine sK.go ?_
 have vr:decide (AO (AO (OM J.SA.length) (OM J.PA.length)) (OM J.RA.length)>60)=mb:=xf.symm
 refine mB (l:=[]) (F':=[(1, .u (I N)),(2, .u (.p 10 0)),(4, .u (.v (.slice none 0 0))),(6, .u (I (AO (AO (OM J.SA.length) (OM J.PA.length)) (OM J.RA.length))))]) (H':=jB 0 J++[(10,some (.st (EC 0 J)))]) (n':=11) (eN ⟨rfl,rfl,rfl,rfl,U⟩ AE) ?_
 generalize AO (AO (OM J.SA.length) (OM J.PA.length)) (OM J.RA.length)=VB at vr⊢
 cases c with
 |false=>
  have hI:R=([],false):=by rw[hR];unfold EO;rw[<-hc];rfl
  subst hI
  repeat' (first
   |refine HD ?_
   |refine cT 33 rfl rfl ?_
   |refine tk ?_
   |refine cr 12 [0,1,2,3,4,5,6,7,8,9] func12 (λ_=>DO) (λ_=>ME O rfl rfl rfl rfl rfl rfl rfl rfl rfl rfl U) ?_
   |refine cr 13 [0,1,2,3,4,5,6,7,8,9] func13 (λhc=>(by first|exact absurd hc (by decide)|(simp at hc):Fn prog 13 [.agg (EC 0 J)] (jB 0 J++[]) 10 (B false) [] 10)) (λ_=>ME O rfl rfl rfl rfl rfl rfl rfl rfl rfl rfl U) ?_
   |refine CA ?_|refine an ?_ ?_|(intro Z;try simp at Z))
  exact⟨aG 4 1 2 rfl (PD ⟨[(10,11)],eL [(10,11)] ⟨rfl,U⟩ ⟨gA rfl rfl,U⟩⟩)⟩
 |true=>
  have HG:J.Clean:=J.yX.1 hc.symm
  have yf:=z8 J HG hn.1
  rw[<-oY]at yf
  have VQ:=CAA J HG hn.1
  obtain⟨u,hu⟩:∃u,u=BQ J (JM J):=⟨_,rfl⟩
  rw[<-hu]at VQ
  have xr:=jAA J BD hn u (λ_=>VQ) N hN
  obtain⟨DC,hD⟩:∃DC,DC=NM J u N:=⟨_,rfl⟩
  rw[<-hD]at xr
  have yr:∀b,(mb||lb)=b->(if decide (VB>60)=true then true else lb)=b:=λb h=>by rw[vr,<-h];cases mb<;>cases lb<;>rfl
  cases hg:(mb||lb)with
  |true=>
   have hI:R=([],false):=by rw[hR];unfold EO;rw[<-hc,<-xf,<-oY];simp only[Bool.not_true,Bool.false_or,hg,if_true]
   subst hI
   repeat' (first
    |refine HD ?_
    |refine cT 33 rfl (yr _ hg) ?_
    |refine tk ?_
    |refine cr 12 [0,1,2,3,4,5,6,7,8,9] func12 (λ_=>DO) (λ_=>ME O rfl rfl rfl rfl rfl rfl rfl rfl rfl rfl U) ?_
    |refine cr 13 [0,1,2,3,4,5,6,7,8,9] func13 (λ_=>yf) (λ_=>ME O rfl rfl rfl rfl rfl rfl rfl rfl rfl rfl U) ?_
    |refine CA ?_|refine an ?_ ?_|(intro Z;try simp at Z))
   exact⟨aG 4 1 2 rfl (PD ⟨[(10,11)],eL [(10,11)] ⟨rfl,U⟩ ⟨gA rfl rfl,U⟩⟩)⟩
  |false=>
   have hI:R=(DC.1,!DC.2):=by rw[hR];unfold EO;rw[<-hc,<-xf,<-oY,<-hu,<-hD];simp only[Bool.not_true,Bool.false_or,hg,Bool.false_eq_true,if_false]
   subst hI
   repeat' (first
    |refine cF 33 rfl (yr _ hg) ?_
    |refine tk ?_
    |refine cr 12 [0,1,2,3,4,5,6,7,8,9] func12 (λ_=>DO) (λ_=>ME O rfl rfl rfl rfl rfl rfl rfl rfl rfl rfl U) ?_
    |refine cr 13 [0,1,2,3,4,5,6,7,8,9] func13 (λ_=>yf) (λ_=>ME O rfl rfl rfl rfl rfl rfl rfl rfl rfl rfl U) ?_
    |refine cf 14 [0,1,2,3,4,5,6,7,8,9] (.jA [.s 11 0 DC.1.length,B DC.2]) [(11,some (.X 1 2 (A DC.1)))] func14 (λ_=>xr) (λ_=>⟨mS,mS,mS,mS,mS,mS,mS,mS,mS,mS,U⟩) (by show[(_,some (DA.X 1 2 (YA _ (A _))))]=_;rw[kD];try rfl) ?_
    |refine CA ?_|refine an ?_ ?_|(intro Z;try simp at Z))
   exact⟨[(10,11)],eL [(10,11)] ⟨rfl,U⟩ ⟨gA rfl rfl,U⟩⟩
end En
end Go.Proofs.YtkidgehblodbcaaGreatDoor
