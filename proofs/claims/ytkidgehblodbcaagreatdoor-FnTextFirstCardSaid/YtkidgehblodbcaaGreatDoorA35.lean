/- A part of the proof of FnTextFirst: generate, walked. -/
import Derived.Test.YtkidgehblodbcaaGreatDoorA34
set_option linter.all false
set_option maxRecDepth 100000
set_option maxHeartbeats 16000000
namespace Go.Proofs.YtkidgehblodbcaaGreatDoor
namespace En
open Go.RowKit Go.Proofs.Tryz
theorem PBA {C:Cx} {H:HS} {Y:Nat} {c0:Bool} {k:QD->Prop} {fn:Func} (x:IT) (r:RR) (len:Int) (h mi s:Int) (l:List Int) (R0:HS) (yP:R0=[(0,some (.st (kE x))),(1,some (.ro (QE r len))),(12,some (.ro (A r.bs))),(23,some (.X 2 51 (iA x.ts)))]) (hc:Fn prog 50 [.p 0 7, .p 0 23,I r.BA,I h,I mi,I s] R0 26 (.jA []) [(0,some (.st (DJ x l))),(26,some (.X 2 51 (iA l)))] 27) (hf:prog.funcs[50]? =some fn) (hP:C.P=prog) (Z:fn.body.isNone=false)
  (dB:MI MG R0 26 27 Y=true) (hT:H=gH x r len (.X 2 51 (iA x.ts)))
  (hk:k ⟨.jA [],[(0,some (.st (XB {x with ts:=l} 26 27 28 29 30 31 32 33 Y 35 36))),(34,none),(Y,some (.X 2 51 (iA l)))],Y+1+1,MG⟩):cA C 50 [.p 0 7, .p 0 23,I r.BA,I h,I mi,I s] H Y c0 k:=by
 subst yP hT
 exact cA.F MG hf hP Z (λ_=>hc) dB rfl (λ_=>⟨rfl,⟨_,[],rfl,by simp[DA.cells];rfl⟩,mS,by show _=some (DA.X 2 51 (YA _ (iA x.ts)));rw[SC];rfl,U⟩) (s:= .jA []) rfl
  (wh:=[(0,some (.st (XB {x with ts:=l} 26 27 28 29 30 31 32 33 Y 35 36))),(34,none),(Y,some (.X 2 51 (iA l)))])
  (by show[(0,some (DA.st (YA _ _))),(34,none),(Y,some (DA.X 2 51 (YA _ (iA _))))]=_;rw[SC];rfl) hk
abbrev cM (c:CR) (h m q:Int):CR:={c with hh:=h,mi:=m,d:=c.d+q}
structure MX (r:RR) (R:Int) (k:Nat) (h m q:Int):Prop where
 fh:0<=h/\h<=23
 fm:0<=m/\m<=1500
 fq:0<=q
 fb:1440*q+60*h+m<=2000000-1000*(k:Int)
 fe:OE (pM r) r.EA k (1440*q+60*h+m)=some R
def mI (r:RR) (len:Int) (c:CR) (R:Int):MB {s:Nat×Int×Int×Int//MX r R s.1 s.2.1 s.2.2.1 s.2.2.2}where
 F s:=[(0, .u (.p 0 0)),(2, .u (.p 1 0)),(42, .u (B (decide (s.1.2.2.2≠0))))]
 H s:=gH (sC (QA r c) (cM c s.1.2.1 s.1.2.2.1 s.1.2.2.2)) r len (fC c)
 n s:=37
theorem QBA {w:World} {W:Nat->Prop} {G:wA} {g:GW w W} {Q:QT} (r:RR) (len:Int) (c:CR) (m0 R:Int) (hi:1<=r.EA/\r.EA<=1000) (Is:r.bh.length<=1000) (oe:r.bi.length<=1000) (UU:0<=c.hh/\c.hh<=23) (xM:0<=m0/\m0<=1500) (hd:1<=c.d/\c.d<=31) (hR:OE (pM r) r.EA 1440 (60*c.hh+m0)=some R):
  En.T (cx w W f103.ntmps (KA fE) 26 G g) ((f103.body.bind (zH 16)).getD .skip) [(0, .u (.p 0 0)),(2, .u (.p 1 0)),(42, .u (B (false)))]
   (gH (sC (QA r c) {c with mi:=m0}) r len (fC c)) 37
   (yE (cx w W f103.ntmps (KA fE) 26 G g) [(0, .u (.p 0 0)),(2, .u (.p 1 0)),(42, .u (B (decide (R/1440≠0))))] (gH (sC (QA r c) (cM c (R/60%24) (R%60) (R/1440))) r len (fC c)) 37 Q):=by
 repeat' (first
  |refine tk ?_
  |refine CA ?_|refine an ?_ ?_|(intro Z;try simp at Z))
 refine FB (mI r len c R) (λs=>s.1.1) ?_ ?_
 ·have z:60*c.hh+m0=1440*0+60*c.hh+m0:=O
  rw[z]at hR
  refine⟨⟨(1440,c.hh,m0,0),UU,xM,Int.le_refl 0,by show 1440*0+60*c.hh+m0<=2000000-1000*((1440:Nat):Int);omega,hR⟩,[],U,eN ⟨rfl,rfl,rfl,U⟩ ?_⟩
  show lC _ _ (gH (sC (QA r c) {c with hh:=c.hh,mi:=m0,d:=c.d+0}) r len (fC c))
  rw[show c.d+0=c.d by omega];exact eH
 ·rintro⟨⟨k,h,m,q⟩,g⟩
  intro F H Y hF hH hn;dsimp only[mI]at hF hH hn;subst hF hH hn
  have gh:=g.fh
  have gm:=g.fm
  have gq:=g.fq
  have gb:=g.fb
  have g3:=g.fe
  dsimp only at gh gm gq gb g3
  obtain⟨k,rfl⟩:∃k',k=k'+1:=by
   cases k with
   |zero=>exact absurd g3 (by unfold OE;simp)
   |succ k=>exact⟨k,rfl⟩
  unfold OE at g3
  obtain⟨t,ht⟩:∃t,t=1440*q+60*h+m+r.EA:=⟨_,rfl⟩
  rw[<-ht]at g3
  repeat' (first
   |refine pC (x:= .seq (.region 125 _ _) _) [(0, .u (.p 0 0)),(2, .u (.p 1 0)),(42, .u (B (decide (t/1440≠0))))] (gH (sC (QA r c) (cM c (t/60%24) (t%60) (t/1440))) r len (fC c)) 37 ?_ ?_
   |refine AD (t:=1034) (decide ((m+r.EA)/60≠0)) rfl (by rw[Bool.eq_iff_iff];simp) ?_
   |refine AD (t:=1056) (decide ((h+(m+r.EA)/60)/24≠0)) rfl (by rw[Bool.eq_iff_iff];simp) ?_
   |refine AD (t:=1104) (pM r t) rfl (by simp only[FM];unfold pM;rw[Bool.eq_iff_iff];simp;exact Iff.rfl) ?_
   |refine tk ?_
   |refine And.intro (λ_=>by show zA (m+r.EA);unfold zA;omega) ?_
   |refine And.intro (λ_=>by show zA (h+(m+r.EA)/60);unfold zA;omega) ?_
   |refine And.intro (λ_=>by show zA (c.d+q+(h+(m+r.EA)/60)/24);unfold zA;omega) ?_
   |refine cz 99 func99 (λ_=>wO (m+r.EA) 60 O O) ?_
   |refine cz 99 func99 (λ_=>wO (h+(m+r.EA)/60) 24 O O) ?_
   |(refine WC 49 (.s 10 0 _::_) ?_;refine cA.R [10] func49 rfl rfl (λ_=>EG r.bh _ O) rfl rfl rfl BC rfl ?_)
   |(refine WC 49 (.s 11 0 _::_) ?_;refine cA.R [11] func49 rfl rfl (λ_=>EG r.bi _ O) rfl rfl rfl BC rfl ?_)
   |refine CA ?_|refine an ?_ ?_|(intro Z;try simp at Z))
  ·have bE:(m+r.EA)/60≠0:=by assumption
   have jD:(h+(m+r.EA)/60)/24≠0:=by assumption
   have q0:(h+(m+r.EA)/60)%24=t/60%24:=O
   have q1:(m+r.EA)%60=t%60:=O
   have qd:c.d+q+(h+(m+r.EA)/60)/24=c.d+t/1440:=O
   have qf:t/1440≠0:=O
   refine⟨[],eN ⟨rfl,rfl,wL (by simp[qf]),U⟩ ?_⟩
   show lC _ _ (gH (sC (QA r c) {c with hh:=t/60%24,mi:=t%60,d:=c.d+t/1440}) r len (fC c))
   rw[<-q0,<-q1,<-qd];exact eH
  ·have bE:(m+r.EA)/60≠0:=by assumption
   have jD:(h+(m+r.EA)/60)/24=0:=by assumption
   have q0:h+(m+r.EA)/60=t/60%24:=O
   have q1:(m+r.EA)%60=t%60:=O
   have qd:c.d+q=c.d+t/1440:=O
   have qf:decide (q≠0)=decide (t/1440≠0):=by rw[show t/1440=q by omega]
   refine⟨[],eN ⟨rfl,rfl,wL qf,U⟩ ?_⟩
   show lC _ _ (gH (sC (QA r c) {c with hh:=t/60%24,mi:=t%60,d:=c.d+t/1440}) r len (fC c))
   rw[<-q0,<-q1,<-qd];exact eH
  ·have bE:(m+r.EA)/60=0:=by assumption
   have q0:h=t/60%24:=O
   have q1:m+r.EA=t%60:=O
   have qd:c.d+q=c.d+t/1440:=O
   have qf:decide (q≠0)=decide (t/1440≠0):=by rw[show t/1440=q by omega]
   refine⟨[],eN ⟨rfl,rfl,wL qf,U⟩ ?_⟩
   show lC _ _ (gH (sC (QA r c) {c with hh:=t/60%24,mi:=t%60,d:=c.d+t/1440}) r len (fC c))
   rw[<-q0,<-q1,<-qd];exact eH
  ·rw[if_pos Z]at g3
   cases g3
   exact⟨[],eN ⟨rfl,rfl,rfl,U⟩ eH⟩
  ·rw[if_neg (by rw[Z];decide)]at g3
   have z:1440*(t/1440)+60*(t/60%24)+t%60=t:=O
   exact⟨⟨(k,t/60%24,t%60,t/1440),⟨⟨by show 0<=t/60%24;omega,by show t/60%24<=23;omega⟩,⟨by show 0<=t%60;omega,by show t%60<=1500;omega⟩,by show 0<=t/1440;omega,by show 1440*(t/1440)+60*(t/60%24)+t%60<=2000000-1000*(k:Int);omega,by show OE (pM r) r.EA k (1440*(t/1440)+60*(t/60%24)+t%60)=some R;rw[z];exact g3⟩⟩,[],Nat.lt_succ_self k,eN ⟨rfl,rfl,rfl,U⟩ eH⟩
structure Jg (r:RR):Prop where
 bh:r.bh.length<=1000
 bi:r.bi.length<=1000
 bs:r.bs.length<=60/\∀s∈r.bs,0<=s/\s<=59
theorem RBA {r:RR} (hh:Jg r) {R:Int}:(UH r (R/60%24) (R%60)).length<=100/\∀t∈UH r (R/60%24) (R%60),0<=t/\t<86400:=by
 unfold UH
 refine⟨by rw[List.length_mergeSort,jW];have:=hh.bs.1;omega,λt ht=> ?_⟩
 rw[List.mem_mergeSort]at ht
 unfold oD at ht
 obtain⟨s,hs,rfl⟩:=List.mem_map.1 ht
 have:=hh.bs.2 s hs
 omega
structure aa (r:RR) (c:CR):Prop where
 live:Live r c
 date:c.d<=fB c.y c.m
 aX:RF (pM r) r.EA 1440 (60*c.hh+c.mi)
theorem Us {r:RR} {c:CR} (h:aa r c):1<=lN c:=by
 have D:=h.live.y;have h2:=h.live.m;have h3:=h.live.d;have h4:=h.live.hh;have h5:=h.live.mi;have h6:=h.live.s
 have hc:=bG (l:=lp c.y) (m:=c.m) (tB _)
 have:before c.y<=3660000:=by unfold before;omega
 unfold lN NA;omega
theorem SBA (r:RR) (len:Int) (c0:CR) (n0:Nat) (hr:FO r) (hf:r.BA=5) (hh:Jg r) (hc:aa r c0) (hn:lN c0<=n0) (ht:c0.total+40000*(n0:Int)<=1000000000000000000):
  Fn prog 103 [.p 0 0] (QM (QA r c0) r len) 26 (.jA []) (WQ r len (TC fK r n0 c0)) (gN (TC fK r n0 c0)):=by
 have HF:1<=n0:=by have:=Us hc;omega
 obtain⟨AC,hG⟩:∃AC,TC fK r n0 c0=AC:=⟨_,rfl⟩
 rw[hG]
 refine Fn.mk (KA fE) func103 rfl rfl UA (PS AC) λw W G g=> ?_
 refine pK ?_ (eJ (F':=[(0, .u (.p 0 0))]) (H':=gH (QA r c0) r len (.X 2 51 (iA c0.ts))) (n':=37) [(26,15),(27,16),(28,17),(29,18),(30,19),(31,20),(32,21),(33,22),(34,23),(35,24),(36,25)] eF eH)
 repeat' (first
  |refine tk ?_
  |refine And.intro (λZ=>absurd (show false=true from Z) (by decide)) (λ_=> ?_)
  |refine CA ?_|refine an ?_ ?_|(intro Z;try simp at Z))
 refine FB (vK r len fK (aa r) lN AC) (λs=>s.1.1) ?_ ?_
 ·exact⟨⟨(n0,c0),hc,hn,HF,ht,hG⟩,[],U,eN eF eH⟩
 ·rintro⟨⟨n,c⟩,D,h2,h3,h4,h5⟩
  intro F H Y hF hH hn;dsimp only[vK]at hF hH hn;subst hF hH hn
  dsimp only at D h2 h3 h4 h5
  have IP:=D.date
  have aQ:=D.aX
  replace D:=D.live
  obtain⟨n,rfl⟩:∃k,n=k+1:=⟨n-1,O⟩
  have jU:(QA r c).sl=c.sl:=rfl
  by_cases oB:c.sl=0
  ·have hm:=D.m
   have Ua:=D.wd
   have Va:=hr.rb.wk
   have Wa:=D.d
   have hl:=tB c.y
   obtain⟨d1,d2,d3,d4⟩:=dN hm ⟨D.d.1,IP⟩
   have hJ:KD c.y c.m c.d=NA c.y c.m c.d:=XK hm
   have jE:=qJ (NA c.y c.m c.d)
   rw[d1]at jE
   have oE:=VL (before c.y%7).toNat (idxOf (NA c.y c.m c.d)) r.wk
   have ZD:YB r c=((idxOf (NA c.y c.m c.d)).toNat,(idxOf (NA c.y c.m c.d)).toNat+1):=by unfold YB;rw[if_neg O,if_neg O,if_neg O,hJ]
   have JP:¬0<r.vA.length:=λh=>by rcases hr.rb.yR h with h|h<;>omega
   have mC:ON r c:=by
    refine⟨?_,?_,λh=>absurd h JP⟩<;>rw[ZD]<;>(try dsimp only)<;>omega
   have bL:Fn prog 141 [.p 0 7,I r.BA,I c.y,I c.m,I c.d] [(0,some (.ro (kE (QA r c))))] 26 (.jA [I ((YB r c).1:Int),I ((YB r c).2:Int)]) [] 26:=by
    rw[ZD]
    have:=mZ (QA r c) r.BA c.y c.m c.d O (by have:=D.y;omega) hm (by have:=D.d;omega)
    rw[hJ]at this
    rwa [show idxOf (NA c.y c.m c.d)+1=(((idxOf (NA c.y c.m c.d)).toNat+1:Nat):Int)by omega,show I (idxOf (NA c.y c.m c.d))=I (((idxOf (NA c.y c.m c.d)).toNat:Nat):Int)by congr 2;omega]at this
   have bQ:=hr.EA
   have Ls:=D.hh
   have DG:=D.mi
   have KM:=D.s
   obtain⟨t0,iG⟩:∃t0,t0=eK r c:=⟨_,rfl⟩
   have bX:=Ig (a:=1439- (c.hh*60+c.mi)) (b:=r.EA) O O
   obtain⟨q0,tO⟩:∃q0:Nat,t0=c.mi+(q0:Int)*r.EA:=by
    rw[iG];unfold eK
    split
    ·exact⟨((1439- (c.hh*60+c.mi))/r.EA).toNat,by rw[Int.toNat_of_nonneg bX.2.2.1]⟩
    ·exact⟨0,by simp⟩
   have Ns:c.mi<=t0:=by rw[iG];unfold eK;split<;>omega
   have cX:0<=t0/\t0<=1500:=by rw[iG];unfold eK;split<;>omega
   have CN:=aQ q0
   rw[show 60*c.hh+c.mi+(q0:Int)*r.EA=60*c.hh+t0 by omega]at CN
   obtain⟨R,hR⟩:=Option.isSome_iff_exists.1 CN
   obtain⟨⟨j0,UJ,vB,qF⟩,Ps,iU,Qs⟩:=zY bQ.1 hR
   have Rs:R<=200000+1440*1000:=by
    have:((1440:Nat):Int)*r.EA<=1440*1000:=O
    omega
   have yP:0<=R:=O
   have PE:∀o,fixC {rO r c with hh:=R/60%24,mi:=R%60,ts:=UH r (R/60%24) (R%60)} (c.d+R/1440)=o->fK r (rO r c)=o:=λo ho=>by
    unfold fK
    have e:eK r (rO r c)=t0:=by rw[iG];rfl
    rw[e,show 60*(rO r c).hh+t0=60*c.hh+t0 from rfl,hR];exact ho
   have kU:(QA r c).sl=0:=oB
   have lU:=OS hr mC D.ts.1
   have gJ:=iN r.dt r.XA (TH r.sp (QA r (rD r c))) [] c.count D.count
   have hy:=D.y
   have TG:=D.so oB
   have NN:=D.AN
   have MM:=hr.EA
   unfold TC at h5
   rw[if_neg (by simp[oB])]at h5
   have gG:(rE r c).2.2=true->AC= .inr (nD c.st (rE r c).1,(rE r c).1.length):=λh=>by rw[if_pos h]at h5;exact h5.symm
   repeat' (first
    |refine HD ?_
    |refine FJ (x:= .block 2 _) (KS (QA r (oF r c)) r len (fC c) (uK c.ts) hr.lo (XQ mC) (LS hr.rb mC)) (eJ [(36,37)] eF eH) ?_
    |refine SQ (x:= .seq (.region 15 _ _) _) (JS (QA r (rD r c)) r len (fC c) (uK c.ts) rfl (rF r c) (rE r c) (YQ mC) D.ts (NS r c hy) hr.sp TG oB D.count (by show 0<=c.total/\c.total<=_;omega) rfl hr.XA (λF H Y hx he=>by obtain⟨l,he⟩:=he;have cL:=gG hx;subst cL;exact⟨l,fJ he⟩)) (eN ⟨rfl,rfl,nC (HP _ _ _ _).symm,rfl,U⟩ eH) ?_
    |refine AD (t:=66) true rfl (by show((c.sl:Int)==0)=true;simp[oB]) (And.intro (λ_=> ?_) (λh=>by cases h))
    |refine AD (t:=672) false rfl (by simp[hf]) (And.intro (λh=>by cases h) (λ_=> ?_))
    |refine AD (t:=715) false rfl (by simp[hf]) (And.intro (λh=>by cases h) (λ_=> ?_))
    |refine AD (t:=798) false rfl (by simp[hf]) (And.intro (λh=>by cases h) (λ_=> ?_))
    |refine AD (t:=867) false rfl (by simp[hf]) (And.intro (λh=>by cases h) (λ_=> ?_))
    |refine AD (t:=883) false rfl (by simp[hf]) (And.intro (λh=>by cases h) (λ_=> ?_))
    |refine AD (t:=984) true rfl (by simp[hf]) (And.intro (λ_=> ?_) (λh=>by cases h))
    |refine pC (x:= .seq (.region 121 _ _) _) [(0, .u (.p 0 0)),(2, .u (.p 1 0)),(42, .u (B false))] (gH (sC (QA r (rO r c)) {rO r c with mi:=t0}) r len (fC c)) 37 ?_ ?_
    |refine FJ (x:= .block 16 _) (QBA r len (rO r c) t0 R bQ hh.bh hh.bi D.hh cX ⟨D.d.1,by have:=D.d;show c.d<=31;omega⟩ hR) (eN eF eH) ?_
    |refine nU (x:= .seq (.region 154 _ _) _) (mU r len {rO r c with hh:=R/60%24,mi:=R%60,ts:=UH r (R/60%24) (R%60)} (c.d+R/1440) (decide (R/1440≠0)) hr hy hm ⟨O,O⟩ (λh=>by have h':=of_decide_eq_false h;show c.d+R/1440<=fB c.y c.m;omega) rfl (λho F H Y he=>by obtain⟨l,he⟩:=he;rw[if_neg (by simp[show(rE r c).2.2=false by assumption]),PE none ho]at h5;subst h5;exact⟨l,fJ he⟩)) (eJ [(34,37)] eF eH) ?_
    |refine tk ?_
    |(refine AB 140 ?_;refine cA.R [35] func140 rfl rfl (λ_=>mK 0 0 (2*c.so) c.sl c.st.length) rfl rfl rfl (λ_=>U) rfl ?_)
    |(refine AB 141 ?_;refine cA.R MG func141 rfl rfl (λ_=>bL) rfl rfl rfl (λ_=>⟨⟨O,rfl,_,[],rfl,rfl⟩,U⟩) rfl ?_)
    |(refine AB 142 ?_;refine call142 (QA r c) (YB r c).1 (YB r c).2 mC.ab (by have:=mC.hi;have:=tB c.y;omega) rfl rfl rfl rfl rfl rfl ?_)
    |(refine AB 50 ?_;refine PBA (sC (QA r (rO r c)) (cM (rO r c) (R/60%24) (R%60) (R/1440))) r len (R/60%24) (R%60) c.s (UH r (R/60%24) (R%60)) _ rfl (by rw[hf];exact Wp _ r len (R/60%24) (R%60) c.s O O hh.bs.2 hh.bs.1) rfl rfl rfl rfl rfl ?_)
    |refine And.intro (λ_=>by show zA (c.hh*60);unfold zA;omega) ?_
    |refine And.intro (λ_=>by show zA (c.hh*60+c.mi);unfold zA;omega) ?_
    |refine And.intro (λ_=>by show zA (1439- (c.hh*60+c.mi));unfold zA;omega) ?_
    |refine⟨(1439- (c.hh*60+c.mi))/r.EA,λ_=>⟨O,by show(1439- (c.hh*60+c.mi)).tdiv r.EA=_;exact Int.tdiv_eq_ediv_of_nonneg O,by unfold zA;omega⟩,?_⟩
    |refine And.intro (λ_=>by show zA ((1439- (c.hh*60+c.mi))/r.EA*r.EA);unfold zA;omega) ?_
    |refine And.intro (λ_=>by show zA (c.mi+(1439- (c.hh*60+c.mi))/r.EA*r.EA);unfold zA;omega) ?_
    |refine CA ?_|refine an ?_ ?_|(intro Z;try simp at Z))
   ·have Z:rF r c=true:=by assumption
    have e:t0=c.mi+(1439- (c.hh*60+c.mi))/r.EA*r.EA:=by rw[iG];unfold eK;rw[if_pos Z]
    refine⟨[],eN ⟨rfl,rfl,rfl,U⟩ ?_⟩
    show lC _ _ (gH (sC (QA r (rO r c)) {rO r c with mi:=t0}) r len (fC c))
    rw[e];exact eH
   ·have Z:rF r c=false:=by assumption
    have e:t0=c.mi:=by rw[iG];unfold eK;rw[if_neg (by rw[Z];decide)]
    refine⟨[],eN ⟨rfl,rfl,rfl,U⟩ ?_⟩
    show lC _ _ (gH (sC (QA r (rO r c)) {rO r c with mi:=t0}) r len (fC c))
    rw[e];exact eH
   ·refine⟨λc' ho l F H Y he=> ?_⟩
    have hx:(rE r c).2.2=false:=by assumption
    have ha:fK r (rO r c)=some c':=PE _ ho
    rw[if_neg (by simp[hx]),ha]at h5
    obtain⟨f1,f2,f3,f4,f5⟩:=oU (r:=r) ho hy hm O
    obtain⟨e1,_⟩:=QS ho
    have OD:NA c.y c.m (c.d+R/1440)=NA c.y c.m c.d+R/1440:=by unfold NA;omega
    have f5:NA c'.y c'.m c'.d=NA c.y c.m (c.d+R/1440):=f5
    have eh:c'.hh=R/60%24:=by rw[e1]
    have em:c'.mi=R%60:=by rw[e1]
    have es:c'.s=c.s:=by rw[e1];rfl
    have cQ:R=60*c.hh+c.mi+((q0+j0:Nat):Int)*r.EA:=by rw[qF,tO,Int.natCast_add,Int.add_mul];omega
    have dX:60*c'.hh+c'.mi=R%1440:=by rw[eh,em];omega
    have hL:aa r c':=⟨⟨f1,f2,f3,by rw[eh];omega,by rw[em];omega,by rw[es];omega,by rw[e1];exact D.wd,by rw[e1];exact RBA hh,by rw[e1];show 0<=c.total+_;omega,by rw[e1];exact gJ,λ_=>by rw[e1];rfl⟩,f4,by rw[dX,cQ];exact RF.next (tA:=1440) O (D3 r) O aQ (q0+j0) (by rw[<-cQ];omega)⟩
    have HE:=Us hL
    have zJ:lN c'<=n:=by unfold lN at h2 HE⊢;rw[dX]at HE⊢;omega
    refine⟨⟨(n,c'),hL,zJ,by show 1<=n;omega,by show c'.total+_<=_;rw[e1];show c.total+((rE r c).1.length:Int)+40000*(n:Int)<=_;omega,h5⟩,l,Nat.lt_succ_self n,?_⟩
    have e3:c'.ts=UH r (R/60%24) (R%60):=by rw[e1]
    show OA _ l F H Y _ (gH (QA r c') r len (.X 2 51 (iA c'.ts))) 37
    rw[e3];exact he
  ·have e:TC fK r (n+1) c= .inl c:=by unfold TC;rw[if_pos oB]
   rw[e]at h5
   subst h5
   repeat' (first
    |refine AD (t:=66) false rfl (by show((c.sl:Int)==0)=false;simp;exact oB) (And.intro (λh=>by cases h) (λ_=> ?_))
    |refine tk ?_
    |(refine AB 140 ?_;refine cA.R [35] func140 rfl rfl (λ_=>mK 0 0 (2*c.so) c.sl c.st.length) rfl rfl rfl (λ_=>U) rfl ?_)
    |refine CA ?_|refine an ?_ ?_|(intro Z;try simp at Z))
   exact⟨[],eN eF eH⟩
end En
end Go.Proofs.YtkidgehblodbcaaGreatDoor
