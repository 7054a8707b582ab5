/- A part of the proof of FnTextFirst: generate, walked. -/
import Derived.Test.YtkidgehblodbcaaGreatDoorA31
import Derived.Test.YtkidgehblodbcaaGreatDoorA32
set_option linter.all false
set_option maxRecDepth 100000
set_option maxHeartbeats 16000000
namespace Go.Proofs.YtkidgehblodbcaaGreatDoor
namespace En
open Go.RowKit Go.Proofs.Tryz
structure Js (r:RR):Prop where
 bh:r.bh.length<=1000
 bi:r.bi.length<=1000
 bs:r.bs.length<=1000
theorem KBA (R:Int):([(R/3600%24)*3600+(R/60%60)*60+(R%60)]:List Int).length<=100/\∀t∈([(R/3600%24)*3600+(R/60%60)*60+(R%60)]:List Int),0<=t/\t<86400:=by
 refine⟨by show(1:Nat)<=100;omega,λt ht=> ?_⟩
 rw[List.mem_singleton]at ht
 omega
structure Ya (r:RR) (c:CR):Prop where
 live:Live r c
 date:c.d<=fB c.y c.m
 aX:RF (pS r) r.EA 86400 (3600*c.hh+60*c.mi+c.s)
theorem Ks {r:RR} {c:CR} (h:Ya r c):1<=mN c:=by
 have D:=h.live.y;have h2:=h.live.m;have h3:=h.live.d;have h4:=h.live.hh;have h5:=h.live.mi;have h6:=h.live.s
 have hc:=bG (l:=lp c.y) (m:=c.m) (tB _)
 have:before c.y<=3660000:=by unfold before;omega
 unfold mN NA;omega
theorem LBA (r:RR) (len:Int) (c0:CR) (n0:Nat) (hr:FO r) (hf:r.BA=6) (hh:Js r) (hc:Ya r c0) (hn:mN c0<=n0) (ht:c0.total+40000*(n0:Int)<=1000000000000000000):
  Fn prog 103 [.p 0 0] (QM (QA r c0) r len) 26 (.jA []) (WQ r len (TC iK r n0 c0)) (gN (TC iK r n0 c0)):=by
 have HF:1<=n0:=by have:=Ks hc;omega
 obtain⟨AC,hG⟩:∃AC,TC iK r n0 c0=AC:=⟨_,rfl⟩
 rw[hG]
 refine Fn.mk (KA fE) func103 rfl rfl UA (PS AC) λw W G g=> ?_
 refine pK ?_ (eJ (F':=[(0, .u (.p 0 0))]) (H':=gH (QA r c0) r len (.X 2 51 (iA c0.ts))) (n':=37) [(26,15),(27,16),(28,17),(29,18),(30,19),(31,20),(32,21),(33,22),(34,23),(35,24),(36,25)] eF eH)
 repeat' (first
  |refine tk ?_
  |refine And.intro (λZ=>absurd (show false=true from Z) (by decide)) (λ_=> ?_)
  |refine CA ?_|refine an ?_ ?_|(intro Z;try simp at Z))
 refine FB (vK r len iK (Ya r) mN AC) (λs=>s.1.1) ?_ ?_
 ·exact⟨⟨(n0,c0),hc,hn,HF,ht,hG⟩,[],U,eN eF eH⟩
 ·rintro⟨⟨n,c⟩,D,h2,h3,h4,h5⟩
  intro F H Y hF hH hn;dsimp only[vK]at hF hH hn;subst hF hH hn
  dsimp only at D h2 h3 h4 h5
  have IP:=D.date
  have aQ:=D.aX
  replace D:=D.live
  obtain⟨n,rfl⟩:∃k,n=k+1:=⟨n-1,O⟩
  have jU:(QA r c).sl=c.sl:=rfl
  by_cases oB:c.sl=0
  ·have hm:=D.m
   have Ua:=D.wd
   have Va:=hr.rb.wk
   have Wa:=D.d
   have hl:=tB c.y
   obtain⟨d1,d2,d3,d4⟩:=dN hm ⟨D.d.1,IP⟩
   have hJ:KD c.y c.m c.d=NA c.y c.m c.d:=XK hm
   have jE:=qJ (NA c.y c.m c.d)
   rw[d1]at jE
   have oE:=VL (before c.y%7).toNat (idxOf (NA c.y c.m c.d)) r.wk
   have ZD:YB r c=((idxOf (NA c.y c.m c.d)).toNat,(idxOf (NA c.y c.m c.d)).toNat+1):=by unfold YB;rw[if_neg O,if_neg O,if_neg O,hJ]
   have JP:¬0<r.vA.length:=λh=>by rcases hr.rb.yR h with h|h<;>omega
   have mC:ON r c:=by
    refine⟨?_,?_,λh=>absurd h JP⟩<;>rw[ZD]<;>(try dsimp only)<;>omega
   have bL:Fn prog 141 [.p 0 7,I r.BA,I c.y,I c.m,I c.d] [(0,some (.ro (kE (QA r c))))] 26 (.jA [I ((YB r c).1:Int),I ((YB r c).2:Int)]) [] 26:=by
    rw[ZD]
    have:=mZ (QA r c) r.BA c.y c.m c.d O (by have:=D.y;omega) hm (by have:=D.d;omega)
    rw[hJ]at this
    rwa [show idxOf (NA c.y c.m c.d)+1=(((idxOf (NA c.y c.m c.d)).toNat+1:Nat):Int)by omega,show I (idxOf (NA c.y c.m c.d))=I (((idxOf (NA c.y c.m c.d)).toNat:Nat):Int)by congr 2;omega]at this
   have bQ:=hr.EA
   have Ls:=D.hh
   have DG:=D.mi
   have KM:=D.s
   obtain⟨t0,iG⟩:∃t0,t0=gK r c:=⟨_,rfl⟩
   have bX:=Ig (a:=86399- (c.hh*3600+c.mi*60+c.s)) (b:=r.EA) O O
   obtain⟨q0,tO⟩:∃q0:Nat,t0=c.s+(q0:Int)*r.EA:=by
    rw[iG];unfold gK
    split
    ·exact⟨((86399- (c.hh*3600+c.mi*60+c.s))/r.EA).toNat,by rw[Int.toNat_of_nonneg bX.2.2.1]⟩
    ·exact⟨0,by simp⟩
   have Ns:c.s<=t0:=by rw[iG];unfold gK;split<;>omega
   have cX:0<=t0/\t0<=90000:=by rw[iG];unfold gK;split<;>omega
   have CN:=aQ q0
   rw[show 3600*c.hh+60*c.mi+c.s+(q0:Int)*r.EA=3600*c.hh+60*c.mi+t0 by omega]at CN
   obtain⟨R,hR⟩:=Option.isSome_iff_exists.1 CN
   obtain⟨⟨j0,UJ,vB,qF⟩,Ps,iU,Qs⟩:=zY bQ.1 hR
   have Rs:R<=200000+86400*1000:=by
    have:((86400:Nat):Int)*r.EA<=86400*1000:=O
    omega
   have yP:0<=R:=O
   have PE:∀o,fixC {rO r c with hh:=R/3600%24,mi:=R/60%60,s:=R%60,ts:=[(R/3600%24)*3600+(R/60%60)*60+(R%60)]} (c.d+R/86400)=o->iK r (rO r c)=o:=λo ho=>by
    unfold iK
    have e:gK r (rO r c)=t0:=by rw[iG];rfl
    rw[e,show 3600*(rO r c).hh+60*(rO r c).mi+t0=3600*c.hh+60*c.mi+t0 from rfl,hR];exact ho
   have kU:(QA r c).sl=0:=oB
   have lU:=OS hr mC D.ts.1
   have gJ:=iN r.dt r.XA (TH r.sp (QA r (rD r c))) [] c.count D.count
   have hy:=D.y
   have TG:=D.so oB
   have NN:=D.AN
   have MM:=hr.EA
   unfold TC at h5
   rw[if_neg (by simp[oB])]at h5
   have gG:(rE r c).2.2=true->AC= .inr (nD c.st (rE r c).1,(rE r c).1.length):=λh=>by rw[if_pos h]at h5;exact h5.symm
   repeat' (first
    |refine HD ?_
    |refine FJ (x:= .block 2 _) (KS (QA r (oF r c)) r len (fC c) (uK c.ts) hr.lo (XQ mC) (LS hr.rb mC)) (eJ [(36,37)] eF eH) ?_
    |refine SQ (x:= .seq (.region 15 _ _) _) (JS (QA r (rD r c)) r len (fC c) (uK c.ts) rfl (rF r c) (rE r c) (YQ mC) D.ts (NS r c hy) hr.sp TG oB D.count (by show 0<=c.total/\c.total<=_;omega) rfl hr.XA (λF H Y hx he=>by obtain⟨l,he⟩:=he;have cL:=gG hx;subst cL;exact⟨l,fJ he⟩)) (eN ⟨rfl,rfl,nC (HP _ _ _ _).symm,rfl,U⟩ eH) ?_
    |refine AD (t:=66) true rfl (by show((c.sl:Int)==0)=true;simp[oB]) (And.intro (λ_=> ?_) (λh=>by cases h))
    |refine AD (t:=672) false rfl (by simp[hf]) (And.intro (λh=>by cases h) (λ_=> ?_))
    |refine AD (t:=715) false rfl (by simp[hf]) (And.intro (λh=>by cases h) (λ_=> ?_))
    |refine AD (t:=798) false rfl (by simp[hf]) (And.intro (λh=>by cases h) (λ_=> ?_))
    |refine AD (t:=867) false rfl (by simp[hf]) (And.intro (λh=>by cases h) (λ_=> ?_))
    |refine AD (t:=883) false rfl (by simp[hf]) (And.intro (λh=>by cases h) (λ_=> ?_))
    |refine AD (t:=984) false rfl (by simp[hf]) (And.intro (λh=>by cases h) (λ_=> ?_))
    |refine AD (t:=1132) true rfl (by simp[hf]) (And.intro (λ_=> ?_) (λh=>by cases h))
    |refine pC (x:= .seq (.region 136 _ _) _) [(0, .u (.p 0 0)),(2, .u (.p 1 0)),(42, .u (B false))] (gH (sC (QA r (rO r c)) {rO r c with s:=t0}) r len (fC c)) 37 ?_ ?_
    |refine FJ (x:= .block 18 _) (IBA r len (rO r c) t0 R bQ hh.bh hh.bi hh.bs D.hh D.mi cX ⟨D.d.1,by have:=D.d;show c.d<=31;omega⟩ hR) (eN eF eH) ?_
    |refine nU (x:= .seq (.region 154 _ _) _) (mU r len {rO r c with hh:=R/3600%24,mi:=R/60%60,s:=R%60,ts:=[(R/3600%24)*3600+(R/60%60)*60+(R%60)]} (c.d+R/86400) (decide (R/86400≠0)) hr hy hm ⟨O,O⟩ (λh=>by have h':=of_decide_eq_false h;show c.d+R/86400<=fB c.y c.m;omega) rfl (λho F H Y he=>by obtain⟨l,he⟩:=he;rw[if_neg (by simp[show(rE r c).2.2=false by assumption]),PE none ho]at h5;subst h5;exact⟨l,fJ he⟩)) (eJ [(34,37)] eF eH) ?_
    |refine tk ?_
    |(refine AB 140 ?_;refine cA.R [35] func140 rfl rfl (λ_=>mK 0 0 (2*c.so) c.sl c.st.length) rfl rfl rfl (λ_=>U) rfl ?_)
    |(refine AB 141 ?_;refine cA.R MG func141 rfl rfl (λ_=>bL) rfl rfl rfl (λ_=>⟨⟨O,rfl,_,[],rfl,rfl⟩,U⟩) rfl ?_)
    |(refine AB 142 ?_;refine call142 (QA r c) (YB r c).1 (YB r c).2 mC.ab (by have:=mC.hi;have:=tB c.y;omega) rfl rfl rfl rfl rfl rfl ?_)
    |(refine AB 50 ?_;refine HBA (sC (QA r (rO r c)) (cS (rO r c) (R/3600%24) (R/60%60) (R%60) (R/86400))) r len (R/3600%24) (R/60%60) (R%60) ([(R/3600%24)*3600+(R/60%60)*60+(R%60)]) _ rfl (by rw[hf];exact Up _ r len (R/3600%24) (R/60%60) (R%60) O O O) rfl rfl rfl rfl rfl ?_)
    |refine And.intro (λ_=>by show zA (c.hh*3600);unfold zA;omega) ?_
    |refine And.intro (λ_=>by show zA (c.mi*60);unfold zA;omega) ?_
    |refine And.intro (λ_=>by show zA (c.hh*3600+c.mi*60);unfold zA;omega) ?_
    |refine And.intro (λ_=>by show zA (c.hh*3600+c.mi*60+c.s);unfold zA;omega) ?_
    |refine And.intro (λ_=>by show zA (86399- (c.hh*3600+c.mi*60+c.s));unfold zA;omega) ?_
    |refine⟨(86399- (c.hh*3600+c.mi*60+c.s))/r.EA,λ_=>⟨O,by show(86399- (c.hh*3600+c.mi*60+c.s)).tdiv r.EA=_;exact Int.tdiv_eq_ediv_of_nonneg O,by unfold zA;omega⟩,?_⟩
    |refine And.intro (λ_=>by show zA ((86399- (c.hh*3600+c.mi*60+c.s))/r.EA*r.EA);unfold zA;omega) ?_
    |refine And.intro (λ_=>by show zA (c.s+(86399- (c.hh*3600+c.mi*60+c.s))/r.EA*r.EA);unfold zA;omega) ?_
    |refine CA ?_|refine an ?_ ?_|(intro Z;try simp at Z))
   ·have Z:rF r c=true:=by assumption
    have e:t0=c.s+(86399- (c.hh*3600+c.mi*60+c.s))/r.EA*r.EA:=by rw[iG];unfold gK;rw[if_pos Z]
    refine⟨[],eN ⟨rfl,rfl,rfl,U⟩ ?_⟩
    show lC _ _ (gH (sC (QA r (rO r c)) {rO r c with s:=t0}) r len (fC c))
    rw[e];exact eH
   ·have Z:rF r c=false:=by assumption
    have e:t0=c.s:=by rw[iG];unfold gK;rw[if_neg (by rw[Z];decide)]
    refine⟨[],eN ⟨rfl,rfl,rfl,U⟩ ?_⟩
    show lC _ _ (gH (sC (QA r (rO r c)) {rO r c with s:=t0}) r len (fC c))
    rw[e];exact eH
   ·refine⟨λc' ho l F H Y he=> ?_⟩
    have hx:(rE r c).2.2=false:=by assumption
    have ha:iK r (rO r c)=some c':=PE _ ho
    rw[if_neg (by simp[hx]),ha]at h5
    obtain⟨f1,f2,f3,f4,f5⟩:=oU (r:=r) ho hy hm O
    obtain⟨e1,_⟩:=QS ho
    have OD:NA c.y c.m (c.d+R/86400)=NA c.y c.m c.d+R/86400:=by unfold NA;omega
    have f5:NA c'.y c'.m c'.d=NA c.y c.m (c.d+R/86400):=f5
    have eh:c'.hh=R/3600%24:=by rw[e1]
    have em:c'.mi=R/60%60:=by rw[e1]
    have es:c'.s=R%60:=by rw[e1]
    have cQ:R=3600*c.hh+60*c.mi+c.s+((q0+j0:Nat):Int)*r.EA:=by rw[qF,tO,Int.natCast_add,Int.add_mul];omega
    have dX:3600*c'.hh+60*c'.mi+c'.s=R%86400:=by rw[eh,em,es];omega
    have hL:Ya r c':=⟨⟨f1,f2,f3,by rw[eh];omega,by rw[em];omega,by rw[es];omega,by rw[e1];exact D.wd,by rw[e1];exact KBA R,by rw[e1];show 0<=c.total+_;omega,by rw[e1];exact gJ,λ_=>by rw[e1];rfl⟩,f4,by rw[dX,cQ];exact RF.next (tA:=86400) O (E3 r) O aQ (q0+j0) (by rw[<-cQ];omega)⟩
    have HE:=Ks hL
    have zJ:mN c'<=n:=by unfold mN at h2 HE⊢;rw[dX]at HE⊢;omega
    refine⟨⟨(n,c'),hL,zJ,by show 1<=n;omega,by show c'.total+_<=_;rw[e1];show c.total+((rE r c).1.length:Int)+40000*(n:Int)<=_;omega,h5⟩,l,Nat.lt_succ_self n,?_⟩
    have e3:c'.ts=[(R/3600%24)*3600+(R/60%60)*60+(R%60)]:=by rw[e1]
    show OA _ l F H Y _ (gH (QA r c') r len (.X 2 51 (iA c'.ts))) 37
    rw[e3];exact he
  ·have e:TC iK r (n+1) c= .inl c:=by unfold TC;rw[if_pos oB]
   rw[e]at h5
   subst h5
   repeat' (first
    |refine AD (t:=66) false rfl (by show((c.sl:Int)==0)=false;simp;exact oB) (And.intro (λh=>by cases h) (λ_=> ?_))
    |refine tk ?_
    |(refine AB 140 ?_;refine cA.R [35] func140 rfl rfl (λ_=>mK 0 0 (2*c.so) c.sl c.st.length) rfl rfl rfl (λ_=>U) rfl ?_)
    |refine CA ?_|refine an ?_ ?_|(intro Z;try simp at Z))
   exact⟨[],eN eF eH⟩
end En
end Go.Proofs.YtkidgehblodbcaaGreatDoor
