/- A part of the proof of FnTextFirst: generate, walked. -/
import Derived.Test.YtkidgehblodbcaaGreatDoorA30
set_option linter.all false
set_option maxRecDepth 100000
set_option maxHeartbeats 16000000
namespace Go.Proofs.YtkidgehblodbcaaGreatDoor
namespace En
open Go.RowKit Go.Proofs.Tryz
theorem JBA (r:RR) (len:Int) (c0:CR) (n0:Nat) (hr:FO r) (hf:r.BA=3) (hc:ZQ r c0) (hn:SG c0<=n0) (ht:c0.total+40000*(n0:Int)<=1000000000000000000):
  Fn prog 103 [.p 0 0] (QM (QA r c0) r len) 26 (.jA []) (WQ r len (TC vM r n0 c0)) (gN (TC vM r n0 c0)):=by
 have HF:1<=n0:=by have:=ZX hc;omega
 obtain⟨AC,hG⟩:∃AC,TC vM r n0 c0=AC:=⟨_,rfl⟩
 rw[hG]
 refine Fn.mk (KA fE) func103 rfl rfl UA (PS AC) λw W G g=> ?_
 refine pK ?_ (eJ (F':=[(0, .u (.p 0 0))]) (H':=gH (QA r c0) r len (.X 2 51 (iA c0.ts))) (n':=37) [(26,15),(27,16),(28,17),(29,18),(30,19),(31,20),(32,21),(33,22),(34,23),(35,24),(36,25)] eF eH)
 repeat' (first
  |refine tk ?_
  |refine And.intro (λZ=>absurd (show false=true from Z) (by decide)) (λ_=> ?_)
  |refine CA ?_|refine an ?_ ?_|(intro Z;try simp at Z))
 refine FB (vK r len vM (ZQ r) SG AC) (λs=>s.1.1) ?_ ?_
 ·exact⟨⟨(n0,c0),hc,hn,HF,ht,hG⟩,[],U,eN eF eH⟩
 ·rintro⟨⟨n,c⟩,D,h2,h3,h4,h5⟩
  intro F H Y hF hH hn;dsimp only[vK]at hF hH hn;subst hF hH hn
  dsimp only at D h2 h3 h4 h5
  have IP:=D.date
  replace D:=D.live
  obtain⟨n,rfl⟩:∃k,n=k+1:=⟨n-1,O⟩
  have jU:(QA r c).sl=c.sl:=rfl
  by_cases oB:c.sl=0
  ·have hm:=D.m
   have Ua:=D.wd
   have Va:=hr.rb.wk
   have Wa:=D.d
   have hl:=tB c.y
   obtain⟨d1,d2,d3,d4⟩:=dN hm ⟨D.d.1,IP⟩
   have hJ:KD c.y c.m c.d=NA c.y c.m c.d:=XK hm
   have jE:=qJ (NA c.y c.m c.d)
   rw[d1]at jE
   have oE:=VL (before c.y%7).toNat (idxOf (NA c.y c.m c.d)) r.wk
   have ZD:YB r c=((idxOf (NA c.y c.m c.d)).toNat,(idxOf (NA c.y c.m c.d)).toNat+1):=by unfold YB;rw[if_neg O,if_neg O,if_neg O,hJ]
   have JP:¬0<r.vA.length:=λh=>by rcases hr.rb.yR h with h|h<;>omega
   have mC:ON r c:=by
    refine⟨?_,?_,λh=>absurd h JP⟩<;>rw[ZD]<;>(try dsimp only)<;>omega
   have bL:Fn prog 141 [.p 0 7,I r.BA,I c.y,I c.m,I c.d] [(0,some (.ro (kE (QA r c))))] 26 (.jA [I ((YB r c).1:Int),I ((YB r c).2:Int)]) [] 26:=by
    rw[ZD]
    have:=mZ (QA r c) r.BA c.y c.m c.d O (by have:=D.y;omega) hm (by have:=D.d;omega)
    rw[hJ]at this
    rwa [show idxOf (NA c.y c.m c.d)+1=(((idxOf (NA c.y c.m c.d)).toNat+1:Nat):Int)by omega,show I (idxOf (NA c.y c.m c.d))=I (((idxOf (NA c.y c.m c.d)).toNat:Nat):Int)by congr 2;omega]at this
   have kU:(QA r c).sl=0:=oB
   have lU:=OS hr mC D.ts.1
   have gJ:=iN r.dt r.XA (TH r.sp (QA r (rD r c))) [] c.count D.count
   have hy:=D.y
   have TG:=D.so oB
   have NN:=D.AN
   have MM:=hr.EA
   unfold TC at h5
   rw[if_neg (by simp[oB])]at h5
   have gG:(rE r c).2.2=true->AC= .inr (nD c.st (rE r c).1,(rE r c).1.length):=λh=>by rw[if_pos h]at h5;exact h5.symm
   repeat' (first
    |refine HD ?_
    |refine FJ (x:= .block 2 _) (KS (QA r (oF r c)) r len (fC c) (uK c.ts) hr.lo (XQ mC) (LS hr.rb mC)) (eJ [(36,37)] eF eH) ?_
    |refine SQ (x:= .seq (.region 15 _ _) _) (JS (QA r (rD r c)) r len (fC c) (uK c.ts) rfl (rF r c) (rE r c) (YQ mC) D.ts (NS r c hy) hr.sp TG oB D.count (by show 0<=c.total/\c.total<=_;omega) rfl hr.XA (λF H Y hx he=>by obtain⟨l,he⟩:=he;have cL:=gG hx;subst cL;exact⟨l,fJ he⟩)) (eN ⟨rfl,rfl,nC (HP _ _ _ _).symm,rfl,U⟩ eH) ?_
    |refine AD (t:=66) true rfl (by show((c.sl:Int)==0)=true;simp[oB]) (And.intro (λ_=> ?_) (λh=>by cases h))
    |refine AD (t:=672) false rfl (by simp[hf]) (And.intro (λh=>by cases h) (λ_=> ?_))
    |refine AD (t:=715) false rfl (by simp[hf]) (And.intro (λh=>by cases h) (λ_=> ?_))
    |refine AD (t:=798) false rfl (by simp[hf]) (And.intro (λh=>by cases h) (λ_=> ?_))
    |refine AD (t:=867) true rfl (by simp[hf]) (And.intro (λ_=> ?_) (λh=>by cases h))
    |refine nU (x:= .seq (.region 154 _ _) _) (mU r len (rO r c) (c.d+r.EA) true hr hy hm ⟨O,O⟩ (λh=>by cases h) rfl (λho F H Y he=>by obtain⟨l,he⟩:=he;rw[if_neg (by simp[show(rE r c).2.2=false by assumption]),show vM r (rO r c)=none from ho]at h5;subst h5;exact⟨l,fJ he⟩)) (eN eF eH) ?_
    |refine tk ?_
    |(refine AB 140 ?_;refine cA.R [35] func140 rfl rfl (λ_=>mK 0 0 (2*c.so) c.sl c.st.length) rfl rfl rfl (λ_=>U) rfl ?_)
    |(refine AB 141 ?_;refine cA.R MG func141 rfl rfl (λ_=>bL) rfl rfl rfl (λ_=>⟨⟨O,rfl,_,[],rfl,rfl⟩,U⟩) rfl ?_)
    |(refine AB 142 ?_;refine call142 (QA r c) (YB r c).1 (YB r c).2 mC.ab (by have:=mC.hi;have:=tB c.y;omega) rfl rfl rfl rfl rfl rfl ?_)
    |refine And.intro (λ_=>by show zA (c.d+r.EA);unfold zA;omega) ?_
    |refine CA ?_|refine an ?_ ?_|(intro Z;try simp at Z))
   ·refine⟨λc' ho l F H Y he=> ?_⟩
    have hx:(rE r c).2.2=false:=by assumption
    have ha:vM r (rO r c)=some c':=by exact ho
    rw[if_neg (by simp[hx]),ha]at h5
    obtain⟨f1,f2,f3,f4,f5⟩:=oU (r:=r) ho hy hm O
    obtain⟨e1,_⟩:=QS ho
    have OD:NA c.y c.m (c.d+r.EA)=NA c.y c.m c.d+(c.d+r.EA-c.d):=by unfold NA;omega
    have f5:NA c'.y c'.m c'.d=NA c.y c.m (c.d+r.EA):=f5
    have hL:ZQ r c':=⟨⟨f1,f2,f3,by rw[e1];exact D.hh,by rw[e1];exact D.mi,by rw[e1];exact D.s,by rw[e1];exact D.wd,by rw[e1];exact D.ts,by rw[e1];show 0<=c.total+_;omega,by rw[e1];exact gJ,λ_=>by rw[e1];rfl⟩,f4⟩
    have HE:=ZX hL
    have zJ:SG c'<=n:=by unfold SG at h2 HE⊢;omega
    refine⟨⟨(n,c'),hL,zJ,by show 1<=n;omega,by show c'.total+_<=_;rw[e1];show c.total+((rE r c).1.length:Int)+40000*(n:Int)<=_;omega,h5⟩,l,Nat.lt_succ_self n,?_⟩
    have e3:c'.ts=c.ts:=by rw[e1];rfl
    show OA _ l F H Y _ (gH (QA r c') r len (.X 2 51 (iA c'.ts))) 37
    rw[e3];exact he
  ·have e:TC vM r (n+1) c= .inl c:=by unfold TC;rw[if_pos oB]
   rw[e]at h5
   subst h5
   repeat' (first
    |refine AD (t:=66) false rfl (by show((c.sl:Int)==0)=false;simp;exact oB) (And.intro (λh=>by cases h) (λ_=> ?_))
    |refine tk ?_
    |(refine AB 140 ?_;refine cA.R [35] func140 rfl rfl (λ_=>mK 0 0 (2*c.so) c.sl c.st.length) rfl rfl rfl (λ_=>U) rfl ?_)
    |refine CA ?_|refine an ?_ ?_|(intro Z;try simp at Z))
   exact⟨[],eN eF eH⟩
end En
end Go.Proofs.YtkidgehblodbcaaGreatDoor
