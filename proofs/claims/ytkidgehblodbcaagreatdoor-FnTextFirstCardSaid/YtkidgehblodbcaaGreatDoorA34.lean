/- A part of the proof of FnTextFirst: generate, walked. -/
import Derived.Test.YtkidgehblodbcaaGreatDoorA31
set_option linter.all false
set_option maxRecDepth 100000
set_option maxHeartbeats 16000000
namespace Go.Proofs.YtkidgehblodbcaaGreatDoor
namespace En
open Go.RowKit Go.Proofs.Tryz
abbrev cH (c:CR) (t:Int):CR:={c with hh:=t%24,d:=c.d+t/24}
def hI (r:RR) (len:Int) (c:CR) (R:Int):MB {s:Nat×Int//0<=s.2/\s.2<=10000-24*(s.1:Int)/\OE (pH r) r.EA s.1 s.2=some R}where
 F s:=[(0, .u (.p 0 0)),(2, .u (.p 1 0)),(42, .u (B (decide (s.1.2/24≠0))))]
 H s:=gH (sC (QA r c) (cH c s.1.2)) r len (fC c)
 n s:=37
theorem MBA {w:World} {W:Nat->Prop} {G:wA} {g:GW w W} {Q:QT} (r:RR) (len:Int) (c:CR) (t0 R:Int) (hh:Xa r) (ht:0<=t0/\t0<=23) (hd:1<=c.d/\c.d<=31) (hR:OE (pH r) r.EA 24 t0=some R):
  En.T (cx w W f103.ntmps (KA fE) 26 G g) ((f103.body.bind (zH 14)).getD .skip) [(0, .u (.p 0 0)),(2, .u (.p 1 0)),(42, .u (B false))]
   (gH (sC (QA r c) {c with hh:=t0}) r len (fC c)) 37
   (yE (cx w W f103.ntmps (KA fE) 26 G g) [(0, .u (.p 0 0)),(2, .u (.p 1 0)),(42, .u (B (decide (R/24≠0))))] (gH (sC (QA r c) (cH c R)) r len (fC c)) 37 Q):=by
 have bQ:=hh.EA
 have Is:=hh.bh
 have e1:t0%24=t0:=O
 have e2:c.d+t0/24=c.d:=O
 repeat' (first
  |refine tk ?_
  |refine CA ?_|refine an ?_ ?_|(intro Z;try simp at Z))
 refine FB (hI r len c R) (λs=>s.1.1) ?_ ?_
 ·refine⟨⟨(24,t0),ht.1,by show t0<=10000-24*((24:Nat):Int);omega,hR⟩,[],U,eN ⟨rfl,rfl,wL eA,U⟩ ?_⟩
  show lC _ _ (gH (sC (QA r c) {c with hh:=t0%24,d:=c.d+t0/24}) r len (fC c))
  rw[e1,e2];exact eH
 ·rintro⟨⟨k,t⟩,g1,g2,g3⟩
  intro F H Y hF hH hn;dsimp only[hI]at hF hH hn;subst hF hH hn
  dsimp only at g1 g2 g3
  obtain⟨k,rfl⟩:∃k',k=k'+1:=by
   cases k with
   |zero=>exact absurd g3 (by unfold OE;simp)
   |succ k=>exact⟨k,rfl⟩
  unfold OE at g3
  repeat' (first
   |refine pC (x:= .seq (.region 114 _ _) _) [(0, .u (.p 0 0)),(2, .u (.p 1 0)),(42, .u (B (decide ((t+r.EA)/24≠0))))] (gH (sC (QA r c) (cH c (t+r.EA))) r len (fC c)) 37 ?_ ?_
   |refine AD (t:=927) (decide ((t%24+r.EA)/24≠0)) rfl (by rw[Bool.eq_iff_iff];simp) ?_
   |refine AD (t:=956) (pH r (t+r.EA)) rfl (by simp only[FM];rfl) ?_
   |refine tk ?_
   |refine And.intro (λ_=>by show zA (t%24+r.EA);unfold zA;omega) ?_
   |refine And.intro (λ_=>by show zA (c.d+t/24+(t%24+r.EA)/24);unfold zA;omega) ?_
   |refine cz 99 func99 (λ_=>wO (t%24+r.EA) 24 O O) ?_
   |(refine WC 49 (.s 10 0 _::_) ?_;refine cA.R [10] func49 rfl rfl (λ_=>EG r.bh _ O) rfl rfl rfl BC rfl ?_)
   |refine CA ?_|refine an ?_ ?_|(intro Z;try simp at Z))
  ·have qC:(t%24+r.EA)/24≠0:=Z
   have q1:(t%24+r.EA)%24=(t+r.EA)%24:=O
   have q2:c.d+t/24+(t%24+r.EA)/24=c.d+(t+r.EA)/24:=O
   have q3:(t+r.EA)/24≠0:=O
   refine⟨[],eN ⟨rfl,rfl,wL (by simp[q3]),U⟩ ?_⟩
   show lC _ _ (gH (sC (QA r c) {c with hh:=(t+r.EA)%24,d:=c.d+(t+r.EA)/24}) r len (fC c))
   rw[<-q1,<-q2];exact eH
  ·have qC:(t%24+r.EA)/24=0:=Z
   have q1:t%24+r.EA=(t+r.EA)%24:=O
   have q2:c.d+t/24=c.d+(t+r.EA)/24:=O
   have q3:decide (t/24≠0)=decide ((t+r.EA)/24≠0):=by
    rw[show(t+r.EA)/24=t/24 by omega]
   refine⟨[],eN ⟨rfl,rfl,wL q3,U⟩ ?_⟩
   show lC _ _ (gH (sC (QA r c) {c with hh:=(t+r.EA)%24,d:=c.d+(t+r.EA)/24}) r len (fC c))
   rw[<-q1,<-q2];exact eH
  ·rw[if_pos Z]at g3
   cases g3
   exact⟨[],eN ⟨rfl,rfl,rfl,U⟩ eH⟩
  ·rw[if_neg (by rw[Z];decide)]at g3
   exact⟨⟨(k,t+r.EA),by show 0<=t+r.EA;omega,by show t+r.EA<=10000-24*(k:Int);omega,g3⟩,[],Nat.lt_succ_self k,eN ⟨rfl,rfl,rfl,U⟩ eH⟩
theorem NBA {r:RR} (hh:Xa r) {h:Int} (h0:0<=h/\h<=23):(UI r h).length<=100/\∀t∈UI r h,0<=t/\t<86400:=by
 unfold UI
 refine⟨by rw[List.length_mergeSort,kW];exact hh.prod,λt ht=> ?_⟩
 rw[List.mem_mergeSort]at ht
 unfold AF oD at ht
 simp only[List.mem_flatMap,List.mem_map]at ht
 obtain⟨m,hm,s,hs,rfl⟩:=ht
 have:=hh.bi.2 m hm
 have:=hh.bs.2 s hs
 omega
structure Za (r:RR) (c:CR):Prop where
 live:Live r c
 date:c.d<=fB c.y c.m
 aX:RF (pH r) r.EA 24 c.hh
theorem Ts {r:RR} {c:CR} (h:Za r c):1<=kN c:=by
 have D:=h.live.y;have h2:=h.live.m;have h3:=h.live.d;have h4:=h.live.hh
 have hc:=bG (l:=lp c.y) (m:=c.m) (tB _)
 have:before c.y<=3660000:=by unfold before;omega
 unfold kN NA;omega
theorem OBA (r:RR) (len:Int) (c0:CR) (n0:Nat) (hr:FO r) (hf:r.BA=4) (hh:Xa r) (hc:Za r c0) (hn:kN c0<=n0) (ht:c0.total+40000*(n0:Int)<=1000000000000000000):
  Fn prog 103 [.p 0 0] (QM (QA r c0) r len) 26 (.jA []) (WQ r len (TC dK r n0 c0)) (gN (TC dK r n0 c0)):=by
 have HF:1<=n0:=by have:=Ts hc;omega
 obtain⟨AC,hG⟩:∃AC,TC dK r n0 c0=AC:=⟨_,rfl⟩
 rw[hG]
 refine Fn.mk (KA fE) func103 rfl rfl UA (PS AC) λw W G g=> ?_
 refine pK ?_ (eJ (F':=[(0, .u (.p 0 0))]) (H':=gH (QA r c0) r len (.X 2 51 (iA c0.ts))) (n':=37) [(26,15),(27,16),(28,17),(29,18),(30,19),(31,20),(32,21),(33,22),(34,23),(35,24),(36,25)] eF eH)
 repeat' (first
  |refine tk ?_
  |refine And.intro (λZ=>absurd (show false=true from Z) (by decide)) (λ_=> ?_)
  |refine CA ?_|refine an ?_ ?_|(intro Z;try simp at Z))
 refine FB (vK r len dK (Za r) kN AC) (λs=>s.1.1) ?_ ?_
 ·exact⟨⟨(n0,c0),hc,hn,HF,ht,hG⟩,[],U,eN eF eH⟩
 ·rintro⟨⟨n,c⟩,D,h2,h3,h4,h5⟩
  intro F H Y hF hH hn;dsimp only[vK]at hF hH hn;subst hF hH hn
  dsimp only at D h2 h3 h4 h5
  have IP:=D.date
  have aQ:=D.aX
  replace D:=D.live
  obtain⟨n,rfl⟩:∃k,n=k+1:=⟨n-1,O⟩
  have jU:(QA r c).sl=c.sl:=rfl
  by_cases oB:c.sl=0
  ·have hm:=D.m
   have Ua:=D.wd
   have Va:=hr.rb.wk
   have Wa:=D.d
   have hl:=tB c.y
   obtain⟨d1,d2,d3,d4⟩:=dN hm ⟨D.d.1,IP⟩
   have hJ:KD c.y c.m c.d=NA c.y c.m c.d:=XK hm
   have jE:=qJ (NA c.y c.m c.d)
   rw[d1]at jE
   have oE:=VL (before c.y%7).toNat (idxOf (NA c.y c.m c.d)) r.wk
   have ZD:YB r c=((idxOf (NA c.y c.m c.d)).toNat,(idxOf (NA c.y c.m c.d)).toNat+1):=by unfold YB;rw[if_neg O,if_neg O,if_neg O,hJ]
   have JP:¬0<r.vA.length:=λh=>by rcases hr.rb.yR h with h|h<;>omega
   have mC:ON r c:=by
    refine⟨?_,?_,λh=>absurd h JP⟩<;>rw[ZD]<;>(try dsimp only)<;>omega
   have bL:Fn prog 141 [.p 0 7,I r.BA,I c.y,I c.m,I c.d] [(0,some (.ro (kE (QA r c))))] 26 (.jA [I ((YB r c).1:Int),I ((YB r c).2:Int)]) [] 26:=by
    rw[ZD]
    have:=mZ (QA r c) r.BA c.y c.m c.d O (by have:=D.y;omega) hm (by have:=D.d;omega)
    rw[hJ]at this
    rwa [show idxOf (NA c.y c.m c.d)+1=(((idxOf (NA c.y c.m c.d)).toNat+1:Nat):Int)by omega,show I (idxOf (NA c.y c.m c.d))=I (((idxOf (NA c.y c.m c.d)).toNat:Nat):Int)by congr 2;omega]at this
   have bQ:=hh.EA
   have Ls:=D.hh
   obtain⟨t0,iG⟩:∃t0,t0=cK r c:=⟨_,rfl⟩
   have bX:=Ig (a:=23-c.hh) (b:=r.EA) O O
   obtain⟨q0,tO⟩:∃q0:Nat,t0=c.hh+(q0:Int)*r.EA:=by
    rw[iG];unfold cK
    split
    ·exact⟨((23-c.hh)/r.EA).toNat,by rw[Int.toNat_of_nonneg bX.2.2.1]⟩
    ·exact⟨0,by simp⟩
   have Ns:c.hh<=t0:=by rw[iG];unfold cK;split<;>omega
   have cX:0<=t0/\t0<=23:=by rw[iG];unfold cK;split<;>omega
   have CN:=aQ q0
   rw[<-tO]at CN
   obtain⟨R,hR⟩:=Option.isSome_iff_exists.1 CN
   obtain⟨⟨j0,UJ,vB,qF⟩,Ps,iU,Qs⟩:=zY bQ.1 hR
   have Rs:R<=23+24*24:=by have:((24:Nat):Int)*r.EA<=24*24:=O;omega
   have PE:∀o,fixC {rO r c with hh:=R%24,ts:=UI r (R%24)} (c.d+R/24)=o->dK r (rO r c)=o:=λo ho=>by
    unfold dK
    have e:cK r (rO r c)=t0:=by rw[iG];rfl
    rw[e,hR];exact ho
   have kU:(QA r c).sl=0:=oB
   have lU:=OS hr mC D.ts.1
   have gJ:=iN r.dt r.XA (TH r.sp (QA r (rD r c))) [] c.count D.count
   have hy:=D.y
   have TG:=D.so oB
   have NN:=D.AN
   have MM:=hr.EA
   unfold TC at h5
   rw[if_neg (by simp[oB])]at h5
   have gG:(rE r c).2.2=true->AC= .inr (nD c.st (rE r c).1,(rE r c).1.length):=λh=>by rw[if_pos h]at h5;exact h5.symm
   repeat' (first
    |refine HD ?_
    |refine FJ (x:= .block 2 _) (KS (QA r (oF r c)) r len (fC c) (uK c.ts) hr.lo (XQ mC) (LS hr.rb mC)) (eJ [(36,37)] eF eH) ?_
    |refine SQ (x:= .seq (.region 15 _ _) _) (JS (QA r (rD r c)) r len (fC c) (uK c.ts) rfl (rF r c) (rE r c) (YQ mC) D.ts (NS r c hy) hr.sp TG oB D.count (by show 0<=c.total/\c.total<=_;omega) rfl hr.XA (λF H Y hx he=>by obtain⟨l,he⟩:=he;have cL:=gG hx;subst cL;exact⟨l,fJ he⟩)) (eN ⟨rfl,rfl,nC (HP _ _ _ _).symm,rfl,U⟩ eH) ?_
    |refine AD (t:=66) true rfl (by show((c.sl:Int)==0)=true;simp[oB]) (And.intro (λ_=> ?_) (λh=>by cases h))
    |refine AD (t:=672) false rfl (by simp[hf]) (And.intro (λh=>by cases h) (λ_=> ?_))
    |refine AD (t:=715) false rfl (by simp[hf]) (And.intro (λh=>by cases h) (λ_=> ?_))
    |refine AD (t:=798) false rfl (by simp[hf]) (And.intro (λh=>by cases h) (λ_=> ?_))
    |refine AD (t:=867) false rfl (by simp[hf]) (And.intro (λh=>by cases h) (λ_=> ?_))
    |refine AD (t:=883) true rfl (by simp[hf]) (And.intro (λ_=> ?_) (λh=>by cases h))
    |refine pC (x:= .seq (.region 110 _ _) _) [(0, .u (.p 0 0)),(2, .u (.p 1 0)),(42, .u (B false))] (gH (sC (QA r (rO r c)) {rO r c with hh:=t0}) r len (fC c)) 37 ?_ ?_
    |refine FJ (x:= .block 14 _) (MBA r len (rO r c) t0 R hh cX ⟨D.d.1,by have:=D.d;show c.d<=31;omega⟩ hR) (eN eF eH) ?_
    |refine nU (x:= .seq (.region 154 _ _) _) (mU r len {rO r c with hh:=R%24,ts:=UI r (R%24)} (c.d+R/24) (decide (R/24≠0)) hr hy hm ⟨O,O⟩ (λh=>by have h':=of_decide_eq_false h;show c.d+R/24<=fB c.y c.m;omega) rfl (λho F H Y he=>by obtain⟨l,he⟩:=he;rw[if_neg (by simp[show(rE r c).2.2=false by assumption]),PE none ho]at h5;subst h5;exact⟨l,fJ he⟩)) (eJ [(34,37)] eF eH) ?_
    |refine tk ?_
    |(refine AB 140 ?_;refine cA.R [35] func140 rfl rfl (λ_=>mK 0 0 (2*c.so) c.sl c.st.length) rfl rfl rfl (λ_=>U) rfl ?_)
    |(refine AB 141 ?_;refine cA.R MG func141 rfl rfl (λ_=>bL) rfl rfl rfl (λ_=>⟨⟨O,rfl,_,[],rfl,rfl⟩,U⟩) rfl ?_)
    |(refine AB 142 ?_;refine call142 (QA r c) (YB r c).1 (YB r c).2 mC.ab (by have:=mC.hi;have:=tB c.y;omega) rfl rfl rfl rfl rfl rfl ?_)
    |(refine AB 50 ?_;refine call50 (sC (QA r (rO r c)) (cH (rO r c) R)) r len (R%24) c.mi c.s (UI r (R%24)) _ rfl (by rw[hf];exact bp _ r len (R%24) c.mi c.s O hh.bi.2 hh.bs.2 hh.bi.1 hh.bs.1 (by have:=hh.prod;omega)) rfl rfl rfl rfl rfl ?_)
    |refine And.intro (λ_=>by show zA (23-c.hh);unfold zA;omega) ?_
    |refine⟨(23-c.hh)/r.EA,λ_=>⟨O,by show(23-c.hh).tdiv r.EA=_;exact Int.tdiv_eq_ediv_of_nonneg O,by unfold zA;omega⟩,?_⟩
    |refine And.intro (λ_=>by show zA ((23-c.hh)/r.EA*r.EA);unfold zA;omega) ?_
    |refine And.intro (λ_=>by show zA (c.hh+(23-c.hh)/r.EA*r.EA);unfold zA;omega) ?_
    |refine CA ?_|refine an ?_ ?_|(intro Z;try simp at Z))
   ·have Z:rF r c=true:=by assumption
    have e:t0=c.hh+(23-c.hh)/r.EA*r.EA:=by rw[iG];unfold cK;rw[if_pos Z]
    refine⟨[],eN ⟨rfl,rfl,rfl,U⟩ ?_⟩
    show lC _ _ (gH (sC (QA r (rO r c)) {rO r c with hh:=t0}) r len (fC c))
    rw[e];exact eH
   ·have Z:rF r c=false:=by assumption
    have e:t0=c.hh:=by rw[iG];unfold cK;rw[if_neg (by rw[Z];decide)]
    refine⟨[],eN ⟨rfl,rfl,rfl,U⟩ ?_⟩
    show lC _ _ (gH (sC (QA r (rO r c)) {rO r c with hh:=t0}) r len (fC c))
    rw[e];exact eH
   ·refine⟨λc' ho l F H Y he=> ?_⟩
    have hx:(rE r c).2.2=false:=by assumption
    have ha:dK r (rO r c)=some c':=PE _ ho
    rw[if_neg (by simp[hx]),ha]at h5
    obtain⟨f1,f2,f3,f4,f5⟩:=oU (r:=r) ho hy hm O
    obtain⟨e1,_⟩:=QS ho
    have OD:NA c.y c.m (c.d+R/24)=NA c.y c.m c.d+R/24:=by unfold NA;omega
    have f5:NA c'.y c'.m c'.d=NA c.y c.m (c.d+R/24):=f5
    have eh:c'.hh=R%24:=by rw[e1]
    have cQ:R=c.hh+((q0+j0:Nat):Int)*r.EA:=by rw[qF,tO,Int.natCast_add,Int.add_mul];omega
    have hL:Za r c':=⟨⟨f1,f2,f3,by rw[eh];omega,by rw[e1];exact D.mi,by rw[e1];exact D.s,by rw[e1];exact D.wd,by rw[e1];exact NBA hh O,by rw[e1];show 0<=c.total+_;omega,by rw[e1];exact gJ,λ_=>by rw[e1];rfl⟩,f4,by rw[eh,cQ];exact RF.next (tA:=24) O (C3 r) D.hh.1 aQ (q0+j0) (by rw[<-cQ];omega)⟩
    have HE:=Ts hL
    have zJ:kN c'<=n:=by unfold kN at h2 HE⊢;rw[eh]at HE⊢;omega
    refine⟨⟨(n,c'),hL,zJ,by show 1<=n;omega,by show c'.total+_<=_;rw[e1];show c.total+((rE r c).1.length:Int)+40000*(n:Int)<=_;omega,h5⟩,l,Nat.lt_succ_self n,?_⟩
    have e3:c'.ts=UI r (R%24):=by rw[e1]
    show OA _ l F H Y _ (gH (QA r c') r len (.X 2 51 (iA c'.ts))) 37
    rw[e3];exact he
  ·have e:TC dK r (n+1) c= .inl c:=by unfold TC;rw[if_pos oB]
   rw[e]at h5
   subst h5
   repeat' (first
    |refine AD (t:=66) false rfl (by show((c.sl:Int)==0)=false;simp;exact oB) (And.intro (λh=>by cases h) (λ_=> ?_))
    |refine tk ?_
    |(refine AB 140 ?_;refine cA.R [35] func140 rfl rfl (λ_=>mK 0 0 (2*c.so) c.sl c.st.length) rfl rfl rfl (λ_=>U) rfl ?_)
    |refine CA ?_|refine an ?_ ?_|(intro Z;try simp at Z))
   exact⟨[],eN eF eH⟩
end En
end Go.Proofs.YtkidgehblodbcaaGreatDoor
