/- A part of the proof of FnTextFirst: generate, walked. -/
import Derived.Test.YtkidgehblodbcaaGreatDoorA29
set_option linter.all false
set_option maxRecDepth 100000
set_option maxHeartbeats 16000000
namespace Go.Proofs.YtkidgehblodbcaaGreatDoor
namespace En
open Go.RowKit Go.Proofs.Tryz
theorem nU {C:Cx} {x:Code} {o:Option CR} {F:FS} {H:HS} {Y:Nat} {F':FS} {H':HS} {n':Nat} {F2:FS} {K:CR->HS} {n2:Nat} {Q:QT} {l:List (Nat×Nat)} (h:T C x F' H' n' (Hg C o F2 K n2 Q)) (he:OA C l F H Y F' H' n') (hr:Stop (∀c',o=some c'->∀l F H Y,OA C l F H Y F2 (K c') n2->Q .normal F H Y)):T C x F H Y Q:=DBA h he hr.ok
theorem QS {c c':CR} {d:Int} (h:fixC c d=some c'):c'={c with y:=oA (NA c.y c.m d),m:=KB (NA c.y c.m d),d:=JC (NA c.y c.m d)}/\oA (NA c.y c.m d)<=9999:=by
 unfold fixC at h
 split at h
 ·cases h
 ·rename_i hn;cases h;exact⟨rfl,O⟩
structure ZQ (r:RR) (c:CR):Prop where
 live:Live r c
 date:c.d<=fB c.y c.m
theorem ZX {r:RR} {c:CR} (h:ZQ r c):1<=SG c:=by
 have D:=h.live.y;have h2:=h.live.m;have h3:=h.live.d
 have hc:=bG (l:=lp c.y) (m:=c.m) (tB _)
 have:before c.y<=3660000:=by unfold before;omega
 unfold SG NA;omega
theorem oU {r:RR} {c c':CR} {d:Int} (h:fixC c d=some c') (hy:2<=c.y/\c.y<=9999) (hm:1<=c.m/\c.m<=12) (hd:1<=d):(2<=c'.y/\c'.y<=9999)/\(1<=c'.m/\c'.m<=12)/\(1<=c'.d/\c'.d<=31)/\c'.d<=fB c'.y c'.m/\NA c'.y c'.m c'.d=NA c.y c.m d:=by
 obtain⟨D,h2⟩:=QS h
 have hc:=bG (l:=lp c.y) (m:=c.m) (tB _)
 have h3:= @rI (NA c.y c.m d) c.y (by unfold NA;omega)
 have h4:=CW (NA c.y c.m d)
 have h5:=mM (NA c.y c.m d)
 have h6:= @OG (oA (NA c.y c.m d)) (KB (NA c.y c.m d))
 rw[D]
 exact⟨⟨by show 2<=oA _;omega,h2⟩,h4,⟨h5.1,by show JC _<=31;omega⟩,h5.2,iP _⟩
theorem GBA (r:RR) (len:Int) (c0:CR) (n0:Nat) (hr:FO r) (hf:r.BA=2) (hc:ZQ r c0) (hn:SG c0<=n0) (ht:c0.total+40000*(n0:Int)<=1000000000000000000):
  Fn prog 103 [.p 0 0] (QM (QA r c0) r len) 26 (.jA []) (WQ r len (TC ML r n0 c0)) (gN (TC ML r n0 c0)):=by
 have HF:1<=n0:=by have:=ZX hc;omega
 obtain⟨AC,hG⟩:∃AC,TC ML r n0 c0=AC:=⟨_,rfl⟩
 rw[hG]
 refine Fn.mk (KA fE) func103 rfl rfl UA (PS AC) λw W G g=> ?_
 refine pK ?_ (eJ (F':=[(0, .u (.p 0 0))]) (H':=gH (QA r c0) r len (.X 2 51 (iA c0.ts))) (n':=37) [(26,15),(27,16),(28,17),(29,18),(30,19),(31,20),(32,21),(33,22),(34,23),(35,24),(36,25)] eF eH)
 repeat' (first
  |refine tk ?_
  |refine And.intro (λZ=>absurd (show false=true from Z) (by decide)) (λ_=> ?_)
  |refine CA ?_|refine an ?_ ?_|(intro Z;try simp at Z))
 refine FB (vK r len ML (ZQ r) SG AC) (λs=>s.1.1) ?_ ?_
 ·exact⟨⟨(n0,c0),hc,hn,HF,ht,hG⟩,[],U,eN eF eH⟩
 ·rintro⟨⟨n,c⟩,D,h2,h3,h4,h5⟩
  intro F H Y hF hH hn;dsimp only[vK]at hF hH hn;subst hF hH hn
  dsimp only at D h2 h3 h4 h5
  have IP:=D.date
  replace D:=D.live
  obtain⟨n,rfl⟩:∃k,n=k+1:=⟨n-1,O⟩
  have jU:(QA r c).sl=c.sl:=rfl
  by_cases oB:c.sl=0
  ·have hm:=D.m
   have Ua:=D.wd
   have Va:=hr.rb.wk
   have Wa:=D.d
   have hl:=tB c.y
   obtain⟨d1,d2,d3,d4⟩:=dN hm ⟨D.d.1,IP⟩
   have hJ:KD c.y c.m c.d=NA c.y c.m c.d:=XK hm
   have jE:=qJ (NA c.y c.m c.d)
   rw[d1]at jE
   have oE:=VL (before c.y%7).toNat (idxOf (NA c.y c.m c.d)) r.wk
   have ZD:YB r c=((idxOf (NA c.y c.m c.d)).toNat,(idxOf (NA c.y c.m c.d)).toNat+CG (before c.y%7).toNat (idxOf (NA c.y c.m c.d)) r.wk):=by unfold YB;rw[if_neg O,if_neg O,if_pos hf,hJ]
   have JP:¬0<r.vA.length:=λh=>by rcases hr.rb.yR h with h|h<;>omega
   have mC:ON r c:=by
    refine⟨?_,?_,λh=>absurd h JP⟩<;>rw[ZD]<;>(try dsimp only)<;>omega
   have bL:Fn prog 141 [.p 0 7,I r.BA,I c.y,I c.m,I c.d] [(0,some (.ro (kE (QA r c)))),(1,some (.ro (QE r len))),(19,some (.ro (A (QA r c).XC)))] 26 (.jA [I ((YB r c).1:Int),I ((YB r c).2:Int)]) [] 26:=by
    rw[ZD,hf]
    have:=b7 (QA r c) r len rfl (by show(before c.y%7).toNat<=6;omega) hr.rb.wk c.y c.m c.d (by have:=D.y;omega) hm (by have:=D.d;omega)
    rw[hJ]at this
    rwa [show idxOf (NA c.y c.m c.d)+((CG (QA r c).yw (idxOf (NA c.y c.m c.d)) r.wk:Nat):Int)=(((idxOf (NA c.y c.m c.d)).toNat+CG (before c.y%7).toNat (idxOf (NA c.y c.m c.d)) r.wk:Nat):Int)by show idxOf (NA c.y c.m c.d)+((CG (before c.y%7).toNat (idxOf (NA c.y c.m c.d)) r.wk:Nat):Int)=_;omega,show I (idxOf (NA c.y c.m c.d))=I (((idxOf (NA c.y c.m c.d)).toNat:Nat):Int)by congr 2;omega]at this
   have kU:(QA r c).sl=0:=oB
   have lU:=OS hr mC D.ts.1
   have gJ:=iN r.dt r.XA (TH r.sp (QA r (rD r c))) [] c.count D.count
   have hy:=D.y
   have TG:=D.so oB
   have NN:=D.AN
   have MM:=hr.EA
   unfold TC at h5
   rw[if_neg (by simp[oB])]at h5
   have gG:(rE r c).2.2=true->AC= .inr (nD c.st (rE r c).1,(rE r c).1.length):=λh=>by rw[if_pos h]at h5;exact h5.symm
   repeat' (first
    |refine HD ?_
    |refine FJ (x:= .block 2 _) (KS (QA r (oF r c)) r len (fC c) (uK c.ts) hr.lo (XQ mC) (LS hr.rb mC)) (eJ [(36,37)] eF eH) ?_
    |refine SQ (x:= .seq (.region 15 _ _) _) (JS (QA r (rD r c)) r len (fC c) (uK c.ts) rfl (rF r c) (rE r c) (YQ mC) D.ts (NS r c hy) hr.sp TG oB D.count (by show 0<=c.total/\c.total<=_;omega) rfl hr.XA (λF H Y hx he=>by obtain⟨l,he⟩:=he;have cL:=gG hx;subst cL;exact⟨l,fJ he⟩)) (eN ⟨rfl,rfl,nC (HP _ _ _ _).symm,rfl,U⟩ eH) ?_
    |refine AD (t:=66) true rfl (by show((c.sl:Int)==0)=true;simp[oB]) (And.intro (λ_=> ?_) (λh=>by cases h))
    |refine AD (t:=672) false rfl (by simp[hf]) (And.intro (λh=>by cases h) (λ_=> ?_))
    |refine AD (t:=715) false rfl (by simp[hf]) (And.intro (λh=>by cases h) (λ_=> ?_))
    |refine AD (t:=798) true rfl (by simp[hf]) (And.intro (λ_=> ?_) (λh=>by cases h))
    |refine AD (t:=807) (decide (r.wk>c.wd)) rfl rfl ?_
    |refine nU (x:= .seq (.region 154 _ _) _) (mU r len {rO r c with wd:=r.wk} (c.d+(-(c.wd+1+(6-r.wk))+r.EA*7)) true hr hy hm ⟨O,O⟩ (λh=>by cases h) rfl (λho F H Y he=>by obtain⟨l,he⟩:=he;rw[if_neg (by simp[show(rE r c).2.2=false by assumption]),show ML r (rO r c)=none by(show fixC {rO r c with wd:=r.wk} (if r.wk>c.wd then c.d+(-(c.wd+1+(6-r.wk))+r.EA*7)else c.d+(-(c.wd-r.wk)+r.EA*7))=none);rw[if_pos (by assumption)];exact ho]at h5;subst h5;exact⟨l,fJ he⟩)) (eN eF eH) ?_
    |refine nU (x:= .seq (.region 154 _ _) _) (mU r len {rO r c with wd:=r.wk} (c.d+(-(c.wd-r.wk)+r.EA*7)) true hr hy hm ⟨O,O⟩ (λh=>by cases h) rfl (λho F H Y he=>by obtain⟨l,he⟩:=he;rw[if_neg (by simp[show(rE r c).2.2=false by assumption]),show ML r (rO r c)=none by(show fixC {rO r c with wd:=r.wk} (if r.wk>c.wd then c.d+(-(c.wd+1+(6-r.wk))+r.EA*7)else c.d+(-(c.wd-r.wk)+r.EA*7))=none);rw[if_neg O];exact ho]at h5;subst h5;exact⟨l,fJ he⟩)) (eN eF eH) ?_
    |refine tk ?_
    |(refine AB 140 ?_;refine cA.R [35] func140 rfl rfl (λ_=>mK 0 0 (2*c.so) c.sl c.st.length) rfl rfl rfl (λ_=>U) rfl ?_)
    |(refine AB 141 ?_;refine cA.R MG func141 rfl rfl (λ_=>bL) rfl rfl rfl (λ_=>⟨⟨O,rfl,_,[],rfl,rfl⟩,⟨O,rfl,_,[],rfl,by simp[DA.cells];rfl⟩,⟨O,RC _ _,_,[],rfl,by simp[DA.cells]⟩,U⟩) rfl ?_)
    |(refine AB 142 ?_;refine call142 (QA r c) (YB r c).1 (YB r c).2 mC.ab (by have:=mC.hi;have:=tB c.y;omega) rfl rfl rfl rfl rfl rfl ?_)
    |refine And.intro (λ_=>by show zA (c.wd+1);unfold zA;omega) ?_
    |refine And.intro (λ_=>by show zA (6-r.wk);unfold zA;omega) ?_
    |refine And.intro (λ_=>by show zA (c.wd+1+(6-r.wk));unfold zA;omega) ?_
    |refine And.intro (λ_=>by show zA (-(c.wd+1+(6-r.wk)));unfold zA;omega) ?_
    |refine And.intro (λ_=>by show zA (r.EA*7);unfold zA;omega) ?_
    |refine And.intro (λ_=>by show zA (-(c.wd+1+(6-r.wk))+r.EA*7);unfold zA;omega) ?_
    |refine And.intro (λ_=>by show zA (c.d+(-(c.wd+1+(6-r.wk))+r.EA*7));unfold zA;omega) ?_
    |refine And.intro (λ_=>by show zA (c.wd-r.wk);unfold zA;omega) ?_
    |refine And.intro (λ_=>by show zA (-(c.wd-r.wk));unfold zA;omega) ?_
    |refine And.intro (λ_=>by show zA (-(c.wd-r.wk)+r.EA*7);unfold zA;omega) ?_
    |refine And.intro (λ_=>by show zA (c.d+(-(c.wd-r.wk)+r.EA*7));unfold zA;omega) ?_
    |refine CA ?_|refine an ?_ ?_|(intro Z;try simp at Z))
   ·refine⟨λc' ho l F H Y he=> ?_⟩
    have hx:(rE r c).2.2=false:=by assumption
    have ha:ML r (rO r c)=some c':=by(show fixC {rO r c with wd:=r.wk} (if r.wk>c.wd then c.d+(-(c.wd+1+(6-r.wk))+r.EA*7)else c.d+(-(c.wd-r.wk)+r.EA*7))=some c');rw[if_pos (by assumption)];exact ho
    rw[if_neg (by simp[hx]),ha]at h5
    obtain⟨f1,f2,f3,f4,f5⟩:=oU (r:=r) ho hy hm O
    obtain⟨e1,_⟩:=QS ho
    have OD:NA c.y c.m (c.d+(-(c.wd+1+(6-r.wk))+r.EA*7))=NA c.y c.m c.d+(c.d+(-(c.wd+1+(6-r.wk))+r.EA*7)-c.d):=by unfold NA;omega
    have f5:NA c'.y c'.m c'.d=NA c.y c.m (c.d+(-(c.wd+1+(6-r.wk))+r.EA*7)):=f5
    have hL:ZQ r c':=⟨⟨f1,f2,f3,by rw[e1];exact D.hh,by rw[e1];exact D.mi,by rw[e1];exact D.s,by rw[e1];exact hr.rb.wk,by rw[e1];exact D.ts,by rw[e1];show 0<=c.total+_;omega,by rw[e1];exact gJ,λ_=>by rw[e1];rfl⟩,f4⟩
    have HE:=ZX hL
    have zJ:SG c'<=n:=by unfold SG at h2 HE⊢;omega
    refine⟨⟨(n,c'),hL,zJ,by show 1<=n;omega,by show c'.total+_<=_;rw[e1];show c.total+((rE r c).1.length:Int)+40000*(n:Int)<=_;omega,h5⟩,l,Nat.lt_succ_self n,?_⟩
    have e3:c'.ts=c.ts:=by rw[e1];rfl
    show OA _ l F H Y _ (gH (QA r c') r len (.X 2 51 (iA c'.ts))) 37
    rw[e3];exact he
   ·refine⟨λc' ho l F H Y he=> ?_⟩
    have hx:(rE r c).2.2=false:=by assumption
    have ha:ML r (rO r c)=some c':=by(show fixC {rO r c with wd:=r.wk} (if r.wk>c.wd then c.d+(-(c.wd+1+(6-r.wk))+r.EA*7)else c.d+(-(c.wd-r.wk)+r.EA*7))=some c');rw[if_neg O];exact ho
    rw[if_neg (by simp[hx]),ha]at h5
    obtain⟨f1,f2,f3,f4,f5⟩:=oU (r:=r) ho hy hm O
    obtain⟨e1,_⟩:=QS ho
    have OD:NA c.y c.m (c.d+(-(c.wd-r.wk)+r.EA*7))=NA c.y c.m c.d+(c.d+(-(c.wd-r.wk)+r.EA*7)-c.d):=by unfold NA;omega
    have f5:NA c'.y c'.m c'.d=NA c.y c.m (c.d+(-(c.wd-r.wk)+r.EA*7)):=f5
    have hL:ZQ r c':=⟨⟨f1,f2,f3,by rw[e1];exact D.hh,by rw[e1];exact D.mi,by rw[e1];exact D.s,by rw[e1];exact hr.rb.wk,by rw[e1];exact D.ts,by rw[e1];show 0<=c.total+_;omega,by rw[e1];exact gJ,λ_=>by rw[e1];rfl⟩,f4⟩
    have HE:=ZX hL
    have zJ:SG c'<=n:=by unfold SG at h2 HE⊢;omega
    refine⟨⟨(n,c'),hL,zJ,by show 1<=n;omega,by show c'.total+_<=_;rw[e1];show c.total+((rE r c).1.length:Int)+40000*(n:Int)<=_;omega,h5⟩,l,Nat.lt_succ_self n,?_⟩
    have e3:c'.ts=c.ts:=by rw[e1];rfl
    show OA _ l F H Y _ (gH (QA r c') r len (.X 2 51 (iA c'.ts))) 37
    rw[e3];exact he
  ·have e:TC ML r (n+1) c= .inl c:=by unfold TC;rw[if_pos oB]
   rw[e]at h5
   subst h5
   repeat' (first
    |refine AD (t:=66) false rfl (by show((c.sl:Int)==0)=false;simp;exact oB) (And.intro (λh=>by cases h) (λ_=> ?_))
    |refine tk ?_
    |(refine AB 140 ?_;refine cA.R [35] func140 rfl rfl (λ_=>mK 0 0 (2*c.so) c.sl c.st.length) rfl rfl rfl (λ_=>U) rfl ?_)
    |refine CA ?_|refine an ?_ ?_|(intro Z;try simp at Z))
   exact⟨[],eN eF eH⟩
structure Xa (r:RR):Prop where
 EA:1<=r.EA/\r.EA<=24
 bh:r.bh.length<=1000
 bi:r.bi.length<=60/\∀m∈r.bi,0<=m/\m<=59
 bs:r.bs.length<=60/\∀s∈r.bs,0<=s/\s<=59
 prod:r.bi.length*r.bs.length<=100
theorem call50 {C:Cx} {H:HS} {Y:Nat} {c0:Bool} {k:QD->Prop} {fn:Func} (x:IT) (r:RR) (len:Int) (h mi s:Int) (l:List Int) (R0:HS) (yP:R0=[(0,some (.st (kE x))),(1,some (.ro (QE r len))),(11,some (.ro (A r.bi))),(12,some (.ro (A r.bs))),(23,some (.X 2 51 (iA x.ts)))]) (hc:Fn prog 50 [.p 0 7, .p 0 23,I r.BA,I h,I mi,I s] R0 26 (.jA []) [(0,some (.st (DJ x l))),(26,some (.X 2 51 (iA l)))] 27) (hf:prog.funcs[50]? =some fn) (hP:C.P=prog) (Z:fn.body.isNone=false)
  (dB:MI MG R0 26 27 Y=true) (hT:H=gH x r len (.X 2 51 (iA x.ts)))
  (hk:k ⟨.jA [],[(0,some (.st (XB {x with ts:=l} 26 27 28 29 30 31 32 33 Y 35 36))),(34,none),(Y,some (.X 2 51 (iA l)))],Y+1+1,MG⟩):cA C 50 [.p 0 7, .p 0 23,I r.BA,I h,I mi,I s] H Y c0 k:=by
 subst yP hT
 exact cA.F MG hf hP Z (λ_=>hc) dB rfl (λ_=>⟨rfl,⟨_,[],rfl,by simp[DA.cells];rfl⟩,mS,mS,by show _=some (DA.X 2 51 (YA _ (iA x.ts)));rw[SC];rfl,U⟩) (s:= .jA []) rfl
  (wh:=[(0,some (.st (XB {x with ts:=l} 26 27 28 29 30 31 32 33 Y 35 36))),(34,none),(Y,some (.X 2 51 (iA l)))])
  (by show[(0,some (DA.st (YA _ _))),(34,none),(Y,some (DA.X 2 51 (YA _ (iA _))))]=_;rw[SC];rfl) hk
theorem Ig {a b:Int} (ha:0<=a) (Z:1<=b):0<=a/b*b/\a/b*b<=a/\0<=a/b/\a/b<=a:=by
 refine⟨Int.mul_nonneg (Int.ediv_nonneg ha O) O,Int.ediv_mul_le a O,Int.ediv_nonneg ha O,Int.ediv_le_self b ha⟩
end En
end Go.Proofs.YtkidgehblodbcaaGreatDoor
