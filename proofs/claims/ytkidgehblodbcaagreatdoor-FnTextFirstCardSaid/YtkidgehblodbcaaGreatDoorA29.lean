/- A part of the proof of FnTextFirst: generate, walked. -/
import Derived.Test.YtkidgehblodbcaaGreatDoorA27
set_option linter.all false
set_option maxRecDepth 100000
set_option maxHeartbeats 16000000
namespace Go.Proofs.YtkidgehblodbcaaGreatDoor
namespace En
open Go.RowKit Go.Proofs.Tryz
theorem ABA {c:CR} {d:Int} (hy:c.y<=9999) (hm:1<=c.m/\c.m<=12) (hd:1<=d/\d<=fB c.y c.m):fixC c d=some {c with d:=d}:=by
 obtain⟨D,h2,h3,h4⟩:=dN hm hd
 unfold fixC
 rw[D,h3,h4,if_neg O]
theorem BBA {c:CR} {d y m e:Int} (hy:y<=9999) (hm:1<=m/\m<=12) (he:1<=e/\e<=fB y m) (hN:NA y m e=NA c.y c.m d):fixC c d=some {c with y:=y,m:=m,d:=e}:=by
 obtain⟨D,h2,h3,h4⟩:=dN hm he
 unfold fixC
 rw[<-hN,D,h3,h4,if_neg O]
theorem CBA {c:CR} {d e:Int} (he:1<=e) (hN:NA 10000 1 e=NA c.y c.m d):fixC c d=none:=by
 have:= @rI (NA c.y c.m d) 10000 (by rw[<-hN];unfold NA;rw[lO];omega)
 unfold fixC;rw[if_pos O]
def Hg (C:Cx) (o:Option CR) (F':FS) (K:CR->HS) (n':Nat) (Q:QT):QT
 | .normal,F,H,Y=>∃l c',o=some c'/\OA C l F H Y F' (K c') n'
 |e,F,H,Y=>Q e F H Y
theorem DBA {C:Cx} {x:Code} {o:Option CR} {F:FS} {H:HS} {Y:Nat} {F':FS} {H':HS} {n':Nat} {F2:FS} {K:CR->HS} {n2:Nat} {Q:QT} {l:List (Nat×Nat)} (h:T C x F' H' n' (Hg C o F2 K n2 Q)) (he:OA C l F H Y F' H' n') (hr:∀c',o=some c'->∀l F H Y,OA C l F H Y F2 (K c') n2->Q .normal F H Y):T C x F H Y Q:=
 mB he (ZO h λe F H Y hq=>by
  cases e<;>first|exact hq|(obtain⟨l,c',hp,hl⟩:=hq;exact hr c' hp l _ _ _ hl))
theorem EBA {y m e:Int} (hm:1<=m/\m<=12):NA y (m+1) (e-fB y m)=NA y m e:=by
 have:=FL (y:=y) hm.1 hm.2
 unfold NA;omega
theorem Gs {y e:Int}:NA (y+1) 1 (e-fB y 12)=NA y 12 e:=by
 have h:=FL (y:=y) (m:=12) O O
 have h2:=NG y
 rw[show(12:Int)+1=13 by rfl,cN]at h
 unfold NA;rw[lO];omega
abbrev cD (c:CR) (y m d:Int):CR:={c with y:=y,m:=m,d:=d}
def Hs (r:RR) (len:Int) (c:CR) (d:Int):MB {s:Int×Int×Int//2<=s.1/\s.1<=9999/\1<=s.2.1/\s.2.1<=12/\1<=s.2.2/\s.2.2<=20000/\NA s.1 s.2.1 s.2.2=NA c.y c.m d}where
 F s:=[(0, .u (.p 0 0)),(2, .u (.p 1 0)),(51, .u (I (fB s.1.1 s.1.2.1)))]
 H s:=gH (sC (QA r c) (cD c s.1.1 s.1.2.1 s.1.2.2)) r len (fC c)
 n s:=37
theorem mU {w:World} {W:Nat->Prop} {G:wA} {g:GW w W} {Q:QT} (r:RR) (len:Int) (c:CR) (d:Int) (fx:Bool) (hr:FO r) (hy:2<=c.y/\c.y<=9999) (hm:1<=c.m/\c.m<=12) (hd:1<=d/\d<=20000) (hfx:fx=false->d<=fB c.y c.m) (oB:c.so=0)
  (yN:fixC c d=none->∀F H Y,(∃l,OA (cx w W f103.ntmps (KA fE) 26 G g) l [] H Y [] (ZU c.st c.sl) 27)->Q .ret F H Y):
  En.T (cx w W f103.ntmps (KA fE) 26 G g) ((f103.body.bind (ID 154)).getD .skip) [(0, .u (.p 0 0)),(2, .u (.p 1 0)),(42, .u (B fx))]
   (gH (sC (QA r c) {c with d:=d}) r len (fC c)) 37
   (Hg (cx w W f103.ntmps (KA fE) 26 G g) (fixC c d) [(0, .u (.p 0 0)),(2, .u (.p 1 0))] (λc'=>gH (QA r c') r len (fC c)) 37 Q):=by
 have DG:= @OG c.y c.m
 by_cases BS:fx=true/\fB c.y c.m<d
 ·skip
  repeat' (first
   |refine EQ 20 ?_
   |refine AD (t:=1330) true rfl (by obtain⟨D,h2⟩:=BS;subst D;show(if true=true then decide (d>28)else false)=true;simp;omega) (And.intro (λ_=> ?_) (λh=>by cases h))
   |refine AD (t:=1345) true rfl (by show decide (d>fB c.y c.m)=true;simp;exact BS.2) (And.intro (λ_=> ?_) (λh=>by cases h))
   |refine tk ?_
   |refine cz 150 func150 (λ_=>VZ c.m c.y hm O) ?_
   |refine CA ?_|refine an ?_ ?_|(intro Z;try simp at Z))
  refine Stop.mk ?_
  repeat' (first
   |refine tk ?_
   |refine CA ?_|refine an ?_ ?_|(intro Z;try simp at Z))
  refine FB (Hs r len c d) (λs=>s.1.2.2.toNat) ?_ ?_
  ·exact⟨⟨(c.y,c.m,d),hy.1,hy.2,hm.1,hm.2,hd.1,hd.2,rfl⟩,[],U,eN eF eH⟩
  ·rintro⟨⟨y,m,e⟩,g1,g2,g3,g4,g5,g6,g7⟩
   intro F H Y hF hH hn;dsimp only[Hs]at hF hH hn;subst hF hH hn
   dsimp only at g1 g2 g3 g4 g5 g6 g7
   have ZFA:= @OG y m
   have uG:=FL (y:=y) g3 g4
   by_cases fA:fB y m<e
   ·skip
    repeat' (first
     |refine HD ?_
     |refine AD (t:=1351) true rfl (by show decide (e>fB y m)=true;simp;exact fA) (And.intro (λ_=> ?_) (λh=>by cases h))
     |refine AD (t:=1371) (decide (m=12)) rfl (by show((m+1:Int)==13)=_;rw[Bool.eq_iff_iff];simp;omega) ?_
     |refine AD (t:=1386) (decide (y+1>9999)) rfl rfl ?_
     |refine tk ?_
     |refine And.intro (λ_=>by show zA (e-fB y m);unfold zA;omega) ?_
     |refine And.intro (λ_=>by show zA (m+1);unfold zA;omega) ?_
     |refine And.intro (λ_=>by show zA (y+1);unfold zA;omega) ?_
     |refine cz 150 func150 (λ_=>VZ (m+1) y O O) ?_
     |refine cz 150 func150 (λ_=>VZ 1 (y+1) O O) ?_
     |refine CA ?_|refine an ?_ ?_|(intro Z;try simp at Z))
    ·have Ta:m=12:=by assumption
     subst Ta
     have hy9:y=9999:=O
     subst hy9
     have ho:=CBA (c:=c) (d:=d) (e:=e-fB 9999 12) O (by rw[<-g7];exact Gs (y:=9999))
     obtain⟨cy,cm,cd,ch,ci,cs,cw,cts,cto,cco,cst,cso,csl,cds⟩:=c
     dsimp only at oB
     subst oB
     exact⟨RK 0 (List.replicate 26 (.any λ_=>True)++[.s 35 0 csl, .s 35 0 cst.length,B true, .any λ_=>True]) rfl RQ (PD (yN ho _ _ _ ⟨[(26,35)],eL _ trivial eH⟩))⟩
    ·have Ta:m=12:=by assumption
     subst Ta
     exact⟨⟨(y+1,1,e-fB y 12),by show 2<=y+1;omega,by show y+1<=9999;omega,Int.le_refl 1,by show(1:Int)<=12;omega,by show 1<=e-fB y 12;omega,by show e-fB y 12<=20000;omega,by rw[<-g7];exact Gs⟩,[],by show(e-fB y 12).toNat<e.toNat;omega,eN eF eH⟩
    ·exact⟨⟨(y,m+1,e-fB y m),g1,g2,by show 1<=m+1;omega,by show m+1<=12;omega,by show 1<=e-fB y m;omega,by show e-fB y m<=20000;omega,by rw[<-g7];exact EBA ⟨g3,g4⟩⟩,[],by show(e-fB y m).toNat<e.toNat;omega,eN eF eH⟩
   ·skip
    repeat' (first
     |refine AD (t:=1351) false rfl (by show decide (e>fB y m)=false;simp;omega) (And.intro (λh=>by cases h) (λ_=> ?_))
     |refine tk ?_
     |(refine AB 48 ?_;refine YX r len c (cD c y m e) (fC c) (by show 2<=y/\y<=15000;omega) ⟨g3,g4⟩ hr.rb rfl rfl rfl rfl rfl ?_)
     |refine CA ?_|refine an ?_ ?_|(intro Z;try simp at Z))
    exact⟨[(26,37),(27,38),(28,39),(29,40),(30,41),(31,42),(32,43),(33,44)],_,BBA g2 ⟨g3,g4⟩ ⟨g5,O⟩ g7,eJ _ eF eH⟩
 ·have hs:d<=fB c.y c.m:=by
   cases fx with
   |false=>exact hfx rfl
   |true=>exact Int.not_lt.1 λh=>BS ⟨rfl,h⟩
  have Nf:=ABA hy.2 hm ⟨hd.1,hs⟩
  repeat' (first
   |refine AD (t:=1345) false rfl (by show decide (d>fB c.y c.m)=false;simp;exact hs) (And.intro (λh=>by cases h) (λ_=> ?_))
   |refine tk ?_
   |refine cz 150 func150 (λ_=>VZ c.m c.y hm O) ?_
   |refine CA ?_|refine an ?_ ?_|(intro Z;try simp at Z))
  all_goals exact⟨[],_,Nf,eN eF eH⟩
theorem FBA (r:RR) (len:Int) (c0:CR) (n0:Nat) (hr:FO r) (hf:r.BA=1) (hc:Live r c0) (hn:NL c0<=n0) (ht:c0.total+40000*(n0:Int)<=1000000000000000000):
  Fn prog 103 [.p 0 0] (QM (QA r c0) r len) 26 (.jA []) (WQ r len (TC fG r n0 c0)) (gN (TC fG r n0 c0)):=by
 have HF:1<=n0:=by have:=hc.y;have:=hc.m;unfold NL at hn;omega
 obtain⟨AC,hG⟩:∃AC,TC fG r n0 c0=AC:=⟨_,rfl⟩
 rw[hG]
 refine Fn.mk (KA fE) func103 rfl rfl UA (PS AC) λw W G g=> ?_
 refine pK ?_ (eJ (F':=[(0, .u (.p 0 0))]) (H':=gH (QA r c0) r len (.X 2 51 (iA c0.ts))) (n':=37) [(26,15),(27,16),(28,17),(29,18),(30,19),(31,20),(32,21),(33,22),(34,23),(35,24),(36,25)] eF eH)
 repeat' (first
  |refine tk ?_
  |refine And.intro (λZ=>absurd (show false=true from Z) (by decide)) (λ_=> ?_)
  |refine CA ?_|refine an ?_ ?_|(intro Z;try simp at Z))
 refine FB (vK r len fG (Live r) NL AC) (λs=>s.1.1) ?_ ?_
 ·exact⟨⟨(n0,c0),hc,hn,HF,ht,hG⟩,[],U,eN eF eH⟩
 ·rintro⟨⟨n,c⟩,D,h2,h3,h4,h5⟩
  intro F H Y hF hH hn;dsimp only[vK]at hF hH hn;subst hF hH hn
  dsimp only at D h2 h3 h4 h5
  obtain⟨n,rfl⟩:∃k,n=k+1:=⟨n-1,O⟩
  have jU:(QA r c).sl=c.sl:=rfl
  by_cases oB:c.sl=0
  ·have hm:=D.m
   have hl:=tB c.y
   have GL:=bG (l:=lp c.y) (m:=c.m) hl
   have Vc:=bG (l:=lp c.y) (m:=c.m+1) hl
   have NW:=Wk (l:=lp c.y) (m:=c.m) hl
   have T8:GB (lp c.y) (c.m+1)<=365+lp c.y:=by have:=mH hl (show c.m+1<=13 by omega);rwa [cN]at this
   have ZD:YB r c=((GB (lp c.y) c.m).toNat,(GB (lp c.y) (c.m+1)).toNat):=by unfold YB;rw[if_neg O,if_pos hf]
   have mC:ON r c:=by
    refine⟨?_,?_,λ_=> ?_⟩<;>rw[ZD]<;>(try dsimp only)<;>omega
   have bL:Fn prog 141 [.p 0 7,I r.BA,I c.y,I c.m,I c.d] [(0,some (.ro (kE (QA r c)))),(16,some (.ro (A (QA r c).mr)))] 26 (.jA [I ((YB r c).1:Int),I ((YB r c).2:Int)]) [] 26:=by
    rw[ZD,hf]
    have:=Z7 (QA r c) (lp c.y) rfl c.y c.m c.d hm
    rwa [show GB (lp c.y) c.m=(((GB (lp c.y) c.m).toNat:Nat):Int)by omega,show GB (lp c.y) (c.m+1)=(((GB (lp c.y) (c.m+1)).toNat:Nat):Int)by omega]at this
   have kU:(QA r c).sl=0:=oB
   have lU:=OS hr mC D.ts.1
   have gJ:=iN r.dt r.XA (TH r.sp (QA r (rD r c))) [] c.count D.count
   have hy:=D.y
   have TG:=D.so oB
   have NN:=D.AN
   have MM:=hr.EA
   unfold TC at h5
   rw[if_neg (by simp[oB])]at h5
   have gG:(rE r c).2.2=true->AC= .inr (nD c.st (rE r c).1,(rE r c).1.length):=λh=>by rw[if_pos h]at h5;exact h5.symm
   repeat' (first
    |refine HD ?_
    |refine FJ (x:= .block 2 _) (KS (QA r (oF r c)) r len (fC c) (uK c.ts) hr.lo (XQ mC) (LS hr.rb mC)) (eJ [(36,37)] eF eH) ?_
    |refine SQ (x:= .seq (.region 15 _ _) _) (JS (QA r (rD r c)) r len (fC c) (uK c.ts) rfl (rF r c) (rE r c) (YQ mC) D.ts (NS r c hy) hr.sp TG oB D.count (by show 0<=c.total/\c.total<=_;omega) rfl hr.XA (λF H Y hx he=>by obtain⟨l,he⟩:=he;have cL:=gG hx;subst cL;exact⟨l,fJ he⟩)) (eN ⟨rfl,rfl,nC (HP _ _ _ _).symm,rfl,U⟩ eH) ?_
    |refine AD (t:=66) true rfl (by show((c.sl:Int)==0)=true;simp[oB]) (And.intro (λ_=> ?_) (λh=>by cases h))
    |refine AD (t:=672) false rfl (by simp[hf]) (And.intro (λh=>by cases h) (λ_=> ?_))
    |refine AD (t:=715) true rfl (by simp[hf]) (And.intro (λ_=> ?_) (λh=>by cases h))
    |refine AD (t:=731) (decide (c.m+r.EA>12)) rfl rfl ?_
    |refine AD (t:=756) (decide ((c.m+r.EA)%12=0)) rfl (by show((c.m+r.EA)%12==0)=_;rw[Bool.eq_iff_iff];simp) ?_
    |refine AD (t:=771) (decide (c.y+(c.m+r.EA)/12>9999)) rfl rfl ?_
    |refine AD (t:=771) (decide (c.y+(c.m+r.EA)/12-1>9999)) rfl rfl ?_
    |refine tk ?_
    |(refine AB 140 ?_;refine cA.R [35] func140 rfl rfl (λ_=>mK 0 0 (2*c.so) c.sl c.st.length) rfl rfl rfl (λ_=>U) rfl ?_)
    |(refine AB 141 ?_;refine cA.R MG func141 rfl rfl (λ_=>bL) rfl rfl rfl (λ_=>⟨⟨O,rfl,_,[],rfl,rfl⟩,⟨O,RC _ _,_,[],rfl,by simp[DA.cells]⟩,U⟩) rfl ?_)
    |(refine AB 142 ?_;refine call142 (QA r c) (YB r c).1 (YB r c).2 mC.ab (by have:=mC.hi;have:=tB c.y;omega) rfl rfl rfl rfl rfl rfl ?_)
    |refine And.intro (λ_=>by show zA (c.m+r.EA);unfold zA;omega) ?_
    |refine And.intro (λ_=>by show zA (c.y+(c.m+r.EA)/12);unfold zA;omega) ?_
    |refine And.intro (λ_=>by show zA (c.y+(c.m+r.EA)/12-1);unfold zA;omega) ?_
    |refine cz 99 func99 (λ_=>wO (c.m+r.EA) 12 O O) ?_
    |(refine AB 48 ?_;refine YX r len (rO r c) {rO r c with m:=c.m+r.EA} (fC c) (by show 2<=c.y/\c.y<=15000;omega) (by show 1<=c.m+r.EA/\c.m+r.EA<=12;omega) hr.rb rfl rfl rfl rfl rfl ?_)
    |(refine AB 48 ?_;refine YX r len (rO r c) {rO r c with y:=c.y+(c.m+r.EA)/12,m:=(c.m+r.EA)%12} (fC c) (by show 2<=c.y+(c.m+r.EA)/12/\c.y+(c.m+r.EA)/12<=15000;omega) (by show 1<=(c.m+r.EA)%12/\(c.m+r.EA)%12<=12;omega) hr.rb rfl rfl rfl rfl rfl ?_)
    |(refine AB 48 ?_;refine YX r len (rO r c) {rO r c with y:=c.y+(c.m+r.EA)/12-1,m:=12} (fC c) (by show 2<=c.y+(c.m+r.EA)/12-1/\c.y+(c.m+r.EA)/12-1<=15000;omega) (by show(1:Int)<=12/\(12:Int)<=12;omega) hr.rb rfl rfl rfl rfl rfl ?_)
    |refine CA ?_|refine an ?_ ?_|(intro Z;try simp at Z))
   ·have hx:(rE r c).2.2=false:=by assumption
    have ha:fG r (rO r c)=none:=by show(if c.m+r.EA>12 then(if(if(c.m+r.EA)%12=0 then c.y+(c.m+r.EA)/12-1 else c.y+(c.m+r.EA)/12)>9999 then none else some {rO r c with y:=if(c.m+r.EA)%12=0 then c.y+(c.m+r.EA)/12-1 else c.y+(c.m+r.EA)/12,m:=if(c.m+r.EA)%12=0 then 12 else(c.m+r.EA)%12})else some {rO r c with m:=c.m+r.EA})=_;simp only[if_pos (show c.m+r.EA>12 by omega),if_pos (show(c.m+r.EA)%12=0 by omega),if_pos (show c.y+(c.m+r.EA)/12-1>9999 by omega)]
    rw[if_neg (by simp[hx]),ha]at h5
    subst h5
    exact⟨RK 0 (List.replicate 26 (.any λ_=>True)++[.s 35 0 (rE r c).1.length, .s 35 0 (nD c.st (rE r c).1).length,B true, .any λ_=>True]) rfl RQ (PD ⟨[(26,35)],fJ (eL _ trivial eH)⟩)⟩
   ·have hx:(rE r c).2.2=false:=by assumption
    have ha:fG r (rO r c)=some {rO r c with y:=c.y+(c.m+r.EA)/12-1,m:=12}:=by show(if c.m+r.EA>12 then(if(if(c.m+r.EA)%12=0 then c.y+(c.m+r.EA)/12-1 else c.y+(c.m+r.EA)/12)>9999 then none else some {rO r c with y:=if(c.m+r.EA)%12=0 then c.y+(c.m+r.EA)/12-1 else c.y+(c.m+r.EA)/12,m:=if(c.m+r.EA)%12=0 then 12 else(c.m+r.EA)%12})else some {rO r c with m:=c.m+r.EA})=_;simp only[if_pos (show c.m+r.EA>12 by omega),if_pos (show(c.m+r.EA)%12=0 by omega),if_neg (show¬c.y+(c.m+r.EA)/12-1>9999 by omega)]
    rw[if_neg (by simp[hx]),ha]at h5
    refine⟨⟨(n,{rO r c with y:=c.y+(c.m+r.EA)/12-1,m:=12}),⟨by show 2<=c.y+(c.m+r.EA)/12-1/\c.y+(c.m+r.EA)/12-1<=9999;omega,by show 1<=(12:Int)/\(12:Int)<=12;omega,D.d,D.hh,D.mi,D.s,D.wd,D.ts,by show 0<=c.total+_;omega,gJ,λ_=>rfl⟩,?_,?_,?_,h5⟩,[(26,37),(27,38),(28,39),(29,40),(30,41),(31,42),(32,43),(33,44)],Nat.lt_succ_self n,eJ _ eF eH⟩
    ·show(120001- (12*(c.y+(c.m+r.EA)/12-1)+12)).toNat<=n;unfold NL at h2;omega
    ·unfold NL at h2;omega
    ·show c.total+((rE r c).1.length:Int)+40000*(n:Int)<=_;omega
   ·have hx:(rE r c).2.2=false:=by assumption
    have ha:fG r (rO r c)=none:=by show(if c.m+r.EA>12 then(if(if(c.m+r.EA)%12=0 then c.y+(c.m+r.EA)/12-1 else c.y+(c.m+r.EA)/12)>9999 then none else some {rO r c with y:=if(c.m+r.EA)%12=0 then c.y+(c.m+r.EA)/12-1 else c.y+(c.m+r.EA)/12,m:=if(c.m+r.EA)%12=0 then 12 else(c.m+r.EA)%12})else some {rO r c with m:=c.m+r.EA})=_;simp only[if_pos (show c.m+r.EA>12 by omega),if_neg (show¬(c.m+r.EA)%12=0 by omega),if_pos (show c.y+(c.m+r.EA)/12>9999 by omega)]
    rw[if_neg (by simp[hx]),ha]at h5
    subst h5
    exact⟨RK 0 (List.replicate 26 (.any λ_=>True)++[.s 35 0 (rE r c).1.length, .s 35 0 (nD c.st (rE r c).1).length,B true, .any λ_=>True]) rfl RQ (PD ⟨[(26,35)],fJ (eL _ trivial eH)⟩)⟩
   ·have hx:(rE r c).2.2=false:=by assumption
    have ha:fG r (rO r c)=some {rO r c with y:=c.y+(c.m+r.EA)/12,m:=(c.m+r.EA)%12}:=by show(if c.m+r.EA>12 then(if(if(c.m+r.EA)%12=0 then c.y+(c.m+r.EA)/12-1 else c.y+(c.m+r.EA)/12)>9999 then none else some {rO r c with y:=if(c.m+r.EA)%12=0 then c.y+(c.m+r.EA)/12-1 else c.y+(c.m+r.EA)/12,m:=if(c.m+r.EA)%12=0 then 12 else(c.m+r.EA)%12})else some {rO r c with m:=c.m+r.EA})=_;simp only[if_pos (show c.m+r.EA>12 by omega),if_neg (show¬(c.m+r.EA)%12=0 by omega),if_neg (show¬c.y+(c.m+r.EA)/12>9999 by omega)]
    rw[if_neg (by simp[hx]),ha]at h5
    refine⟨⟨(n,{rO r c with y:=c.y+(c.m+r.EA)/12,m:=(c.m+r.EA)%12}),⟨by show 2<=c.y+(c.m+r.EA)/12/\c.y+(c.m+r.EA)/12<=9999;omega,by show 1<=(c.m+r.EA)%12/\(c.m+r.EA)%12<=12;omega,D.d,D.hh,D.mi,D.s,D.wd,D.ts,by show 0<=c.total+_;omega,gJ,λ_=>rfl⟩,?_,?_,?_,h5⟩,[(26,37),(27,38),(28,39),(29,40),(30,41),(31,42),(32,43),(33,44)],Nat.lt_succ_self n,eJ _ eF eH⟩
    ·show(120001- (12*(c.y+(c.m+r.EA)/12)+(c.m+r.EA)%12)).toNat<=n;unfold NL at h2;omega
    ·unfold NL at h2;omega
    ·show c.total+((rE r c).1.length:Int)+40000*(n:Int)<=_;omega
   ·have hx:(rE r c).2.2=false:=by assumption
    have ha:fG r (rO r c)=some {rO r c with m:=c.m+r.EA}:=by show(if c.m+r.EA>12 then(if(if(c.m+r.EA)%12=0 then c.y+(c.m+r.EA)/12-1 else c.y+(c.m+r.EA)/12)>9999 then none else some {rO r c with y:=if(c.m+r.EA)%12=0 then c.y+(c.m+r.EA)/12-1 else c.y+(c.m+r.EA)/12,m:=if(c.m+r.EA)%12=0 then 12 else(c.m+r.EA)%12})else some {rO r c with m:=c.m+r.EA})=_;simp only[if_neg (show¬c.m+r.EA>12 by omega)]
    rw[if_neg (by simp[hx]),ha]at h5
    refine⟨⟨(n,{rO r c with m:=c.m+r.EA}),⟨by show 2<=c.y/\c.y<=9999;omega,by show 1<=c.m+r.EA/\c.m+r.EA<=12;omega,D.d,D.hh,D.mi,D.s,D.wd,D.ts,by show 0<=c.total+_;omega,gJ,λ_=>rfl⟩,?_,?_,?_,h5⟩,[(26,37),(27,38),(28,39),(29,40),(30,41),(31,42),(32,43),(33,44)],Nat.lt_succ_self n,eJ _ eF eH⟩
    ·show(120001- (12*c.y+(c.m+r.EA))).toNat<=n;unfold NL at h2;omega
    ·unfold NL at h2;omega
    ·show c.total+((rE r c).1.length:Int)+40000*(n:Int)<=_;omega
  ·have e:TC fG r (n+1) c= .inl c:=by unfold TC;rw[if_pos oB]
   rw[e]at h5
   subst h5
   repeat' (first
    |refine AD (t:=66) false rfl (by show((c.sl:Int)==0)=false;simp;exact oB) (And.intro (λh=>by cases h) (λ_=> ?_))
    |refine tk ?_
    |(refine AB 140 ?_;refine cA.R [35] func140 rfl rfl (λ_=>mK 0 0 (2*c.so) c.sl c.st.length) rfl rfl rfl (λ_=>U) rfl ?_)
    |refine CA ?_|refine an ?_ ?_|(intro Z;try simp at Z))
   exact⟨[],eN eF eH⟩
end En
end Go.Proofs.YtkidgehblodbcaaGreatDoor
