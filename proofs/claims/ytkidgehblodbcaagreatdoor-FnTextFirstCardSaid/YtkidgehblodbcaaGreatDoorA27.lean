/- A part of the proof of FnTextFirst: generate, walked. -/
import Derived.Test.YtkidgehblodbcaaGreatDoorA25
set_option linter.all false
set_option maxRecDepth 100000
set_option maxHeartbeats 16000000
namespace Go.Proofs.YtkidgehblodbcaaGreatDoor
namespace En
open Go.RowKit Go.Proofs.Tryz
theorem fJ {C:Cx} {l:List (Nat×Nat)} {H:HS} {Y:Nat} {H1:HS} {n1:Nat} (h:OA C l [] H Y [] H1 n1):OA C l [(0, .u (.jA []))] H Y [(0, .u (.jA []))] H1 n1:=⟨⟨rfl,U⟩,h.h,h.inj,h.PK⟩
theorem yAA {C:Cx} {H:HS} {Y:Nat} {c0:Bool} {k:QD->Prop} {fn:Func} (x:IT) (r:RR) (len y m:Int) (z:IT) (hz:EF x r y m=z) (hy:2<=y/\y<=15000) (hm:1<=m/\m<=12) (hx:y=x.ly->Fa x y) (hr:RB r) (hf:prog.funcs[48]? =some fn) (hP:C.P=prog) (Z:fn.body.isNone=false)
  (dB:MI MG (QQ x r len) 26 34 Y=true) (hH:NI (mp MG 26 34 Y) H (QQ x r len))
  (hk:k ⟨.jA [],[(0,some (.st (XB z Y (Y+1) (Y+2) (Y+3) (Y+4) (Y+5) (Y+6) (Y+7) 34 35 36))),(26,none),(27,none),(28,none),(29,none),(30,none),(31,none),(32,none),(33,none),(Y,some (.X 1 3 (A z.mm))),(Y+1,some (.X 1 3 (A z.mr))),(Y+2,some (.X 1 3 (A z.md))),(Y+3,some (.X 1 3 (A z.nd))),(Y+4,some (.X 1 3 (A z.XC))),(Y+5,some (.X 1 3 (A z.wn))),(Y+6,some (.X 1 3 (A z.nw))),(Y+7,some (.X 1 3 (A z.ea)))],Y+8+1,MG⟩):cA C 48 [.p 0 7,I y,I m] H Y c0 k:=by
 subst hz;exact call48 x r len y m hy hm hx hr hf hP Z dB hH hk
theorem YX {C:Cx} {H:HS} {Y:Nat} {c0:Bool} {k:QD->Prop} {fn:Func} (r:RR) (len:Int) (c c':CR) (T:DA) (hy:2<=c'.y/\c'.y<=15000) (hm:1<=c'.m/\c'.m<=12) (hr:RB r) (hf:prog.funcs[48]? =some fn) (hP:C.P=prog) (Z:fn.body.isNone=false)
  (dB:MI MG (QQ (sC (QA r c) c') r len) 26 34 Y=true) (hH:H=gH (sC (QA r c) c') r len T)
  (hk:k ⟨.jA [],[(0,some (.st (XB (QA r c') Y (Y+1) (Y+2) (Y+3) (Y+4) (Y+5) (Y+6) (Y+7) 34 35 36))),(26,none),(27,none),(28,none),(29,none),(30,none),(31,none),(32,none),(33,none),(Y,some (.X 1 3 (A (QA r c').mm))),(Y+1,some (.X 1 3 (A (QA r c').mr))),(Y+2,some (.X 1 3 (A (QA r c').md))),(Y+3,some (.X 1 3 (A (QA r c').nd))),(Y+4,some (.X 1 3 (A (QA r c').XC))),(Y+5,some (.X 1 3 (A (QA r c').wn))),(Y+6,some (.X 1 3 (A (QA r c').nw))),(Y+7,some (.X 1 3 (A (QA r c').ea)))],Y+8+1,MG⟩):cA C 48 [.p 0 7,I c'.y,I c'.m] H Y c0 k:=by
 subst hH
 exact yAA (sC (QA r c) c') r len c'.y c'.m (QA r c') (wAA r c c') hy hm (λe=>uAA r c c' e) hr hf hP Z dB tAA hk
theorem fok {r:RR} (hr:RB r) (c:CR) {i:Nat} (hi:(i:Int)<372+lp c.y) (vC:0<r.vA.length->(i:Int)<365+lp c.y):IX r (QA r c) i:=by
 have hl:=tB c.y
 have gR:=tB (c.y+1)
 have Gg:lp c.y=0\/lp c.y=1:=O
 refine⟨O,?_,?_,?_,?_,?_,λh=> ?_,λh=> ?_,λh=> ?_,?_,?_⟩
 ·show i<(RJ (lp c.y)).length;rw[D2 Gg];omega
 ·show i<(YK (lp c.y)).length;rw[E2 Gg];omega
 ·show i<(ZK (lp c.y)).length;rw[G2 Gg];omega
 ·show(before c.y%7).toNat+i<(JF 55).length;rw[DW];omega
 ·show(before c.y%7).toNat<=6;omega
 ·show i<(eG r c.y).length
  unfold eG;rw[if_neg (λh'=>h (List.length_eq_zero_iff.1 h')),aK,uW];omega
 ·have hw:0<r.vA.length:=by
   rcases Nat.eq_zero_or_pos r.vA.length with h0|h0
   ·exact absurd (show BG r c.y c.m=[]by unfold BG;rw[if_neg O]) h
   ·exact h0
  show i<(BG r c.y c.m).length
  unfold BG;rw[if_pos hw,aK,SJ,List.length_replicate]
  have:=vC hw;omega
 ·show i<(nF r c.y []).length
  unfold nF;rw[if_neg (λh'=>h (List.length_eq_zero_iff.1 h')),aK,List.length_replicate];omega
 ·show 365<=365+lp c.y/\365+lp c.y<=366;omega
 ·show 365<=365+lp (c.y+1)/\365+lp (c.y+1)<=366;omega
structure ON (r:RR) (c:CR):Prop where
 ab:(YB r c).1<=(YB r c).2
 hi:((YB r c).2:Int)<=372+lp c.y
 nw:0<r.vA.length->((YB r c).2:Int)<=365+lp c.y
theorem LS {r:RR} (hr:RB r) {c:CR} (h:ON r c):∀p∈(QA r (oF r c)).ds,p.2=true/\0<=p.1/\IX r (QA r (oF r c)) p.1.toNat:=λp hp=>by
 obtain⟨D,h2,h3⟩:=Fs hp
 have:=h.hi
 refine⟨D,O,fok hr (oF r c) ?_ λhw=> ?_⟩
 ·show(p.1.toNat:Int)<372+lp c.y;omega
 ·have:=h.nw hw;show(p.1.toNat:Int)<365+lp c.y;omega
theorem XQ {r:RR} {c:CR} (h:ON r c):(QA r (oF r c)).ds.length<=400:=by
 have:=h.hi;have:=tB c.y
 show(SD _ _).length<=400
 rw[lZ];omega
theorem YQ {r:RR} {c:CR} (h:ON r c):(QA r (rD r c)).ds.length<=400/\∀p∈(QA r (rD r c)).ds,0<=p.1/\p.1<=400:=by
 refine⟨by show(RG _ _ _ _).length<=400;rw[HP];exact XQ h,λp hp=> ?_⟩
 obtain⟨q,hq,e⟩:=xAA hp
 obtain⟨D,h2,h3⟩:=Fs hq
 have:=h.hi;have:=tB c.y
 omega
theorem NS (r:RR) (c:CR) (h:2<=c.y/\c.y<=9999):0<=(QA r c).fy/\(QA r c).fy<=320000000000/\(QA r c).fy%86400=0:=by
 have:0<=before c.y/\before c.y<=3660000:=by unfold before;omega
 show 0<=before c.y*86400/\before c.y*86400<=320000000000/\before c.y*86400%86400=0
 omega
theorem OS {r:RR} (hr:FO r) {c:CR} (h:ON r c) (sD:c.ts.length<=100):(rE r c).1.length<=40000:=by
 have D:=AZ r.dt r.XA (TH r.sp (QA r (rD r c))) [] c.count
 have h2:(TH r.sp (QA r (rD r c))).length<=40000:=by
  unfold TH
  split
  ·rw[List.length_mergeSort]
   have:=uT (QA r (rD r c)) r.sp r.sp.length
   rw[List.take_length]at this
   have:=hr.sp.1;omega
  ·have:=Ld (QA r (rD r c)) (QA r (rD r c)).ds
   have h3:(QA r (rD r c)).ds.length*(QA r (rD r c)).ts.length<=400*100:=Nat.mul_le_mul (YQ h).1 sD
   omega
 unfold rE;simp at D;omega
theorem PS (AC:CR⊕(List Int×Nat)):26<=gN AC:=by
 cases AC with
 |inl _=>exact UA
 |inr _=>exact UA
def vK (r:RR) (len:Int) (QB:RR->CR->Option CR) (P:CR->Prop) (lim:CR->Nat) (AC:CR⊕(List Int×Nat)):MB {s:Nat×CR//P s.2/\lim s.2<=s.1/\1<=s.1/\s.2.total+40000*(s.1:Int)<=1000000000000000000/\TC QB r s.1 s.2=AC}where
 F s:=[(0, .u (.p 0 0)),(2, .u (.p 1 0))]
 H s:=gH (QA r s.1.2) r len (.X 2 51 (iA s.1.2.ts))
 n s:=37
theorem zAA (r:RR) (len:Int) (c0:CR) (n0:Nat) (hr:FO r) (hf:r.BA=0) (hc:Live r c0) (hn:jN c0<=n0) (ht:c0.total+40000*(n0:Int)<=1000000000000000000):
  Fn prog 103 [.p 0 0] (QM (QA r c0) r len) 26 (.jA []) (WQ r len (TC bK r n0 c0)) (gN (TC bK r n0 c0)):=by
 have HF:1<=n0:=by have:=hc.y;unfold jN at hn;omega
 obtain⟨AC,hG⟩:∃AC,TC bK r n0 c0=AC:=⟨_,rfl⟩
 rw[hG]
 refine Fn.mk (KA fE) func103 rfl rfl UA (PS AC) λw W G g=> ?_
 refine pK ?_ (eJ (F':=[(0, .u (.p 0 0))]) (H':=gH (QA r c0) r len (.X 2 51 (iA c0.ts))) (n':=37) [(26,15),(27,16),(28,17),(29,18),(30,19),(31,20),(32,21),(33,22),(34,23),(35,24),(36,25)] eF eH)
 repeat' (first
  |refine tk ?_
  |refine And.intro (λZ=>absurd (show false=true from Z) (by decide)) (λ_=> ?_)
  |refine CA ?_|refine an ?_ ?_|(intro Z;try simp at Z))
 refine FB (vK r len bK (Live r) jN AC) (λs=>s.1.1) ?_ ?_
 ·exact⟨⟨(n0,c0),hc,hn,HF,ht,hG⟩,[],U,eN eF eH⟩
 ·rintro⟨⟨n,c⟩,D,h2,h3,h4,h5⟩
  intro F H Y hF hH hn;dsimp only[vK]at hF hH hn;subst hF hH hn
  dsimp only at D h2 h3 h4 h5
  obtain⟨n,rfl⟩:∃k,n=k+1:=⟨n-1,O⟩
  have jU:(QA r c).sl=c.sl:=rfl
  by_cases oB:c.sl=0
  ·have mC:ON r c:=by
    have hl:=tB c.y
    have e:YB r c=(0,(365+lp c.y).toNat):=by unfold YB;rw[if_pos hf]
    refine⟨?_,?_,λ_=> ?_⟩<;>rw[e]<;>(try dsimp only)<;>omega
   have bL:Fn prog 141 [.p 0 7,I r.BA,I c.y,I c.m,I c.d] [(0,some (.ro (kE (QA r c))))] 26 (.jA [I ((YB r c).1:Int),I ((YB r c).2:Int)]) [] 26:=by
    have hl:=tB c.y
    have e:YB r c=(0,(365+lp c.y).toNat):=by unfold YB;rw[if_pos hf]
    rw[e,hf]
    have:=Y7 (QA r c) c.y c.m c.d
    rwa [show(QA r c).yl=(((365+lp c.y).toNat:Nat):Int)by show 365+lp c.y=_;omega]at this
   have kU:(QA r c).sl=0:=oB
   have lU:=OS hr mC D.ts.1
   have gJ:=iN r.dt r.XA (TH r.sp (QA r (rD r c))) [] c.count D.count
   have hy:=D.y
   have TG:=D.so oB
   have NN:=D.AN
   have MM:=hr.EA
   unfold TC at h5
   rw[if_neg (by simp[oB])]at h5
   have gG:(rE r c).2.2=true->AC= .inr (nD c.st (rE r c).1,(rE r c).1.length):=λh=>by rw[if_pos h]at h5;exact h5.symm
   repeat' (first
    |refine HD ?_
    |refine FJ (x:= .block 2 _) (KS (QA r (oF r c)) r len (fC c) (uK c.ts) hr.lo (XQ mC) (LS hr.rb mC)) (eJ [(36,37)] eF eH) ?_
    |refine SQ (x:= .seq (.region 15 _ _) _) (JS (QA r (rD r c)) r len (fC c) (uK c.ts) rfl (rF r c) (rE r c) (YQ mC) D.ts (NS r c hy) hr.sp TG oB D.count (by show 0<=c.total/\c.total<=_;omega) rfl hr.XA (λF H Y hx he=>by obtain⟨l,he⟩:=he;have cL:=gG hx;subst cL;exact⟨l,fJ he⟩)) (eN ⟨rfl,rfl,nC (HP _ _ _ _).symm,rfl,U⟩ eH) ?_
    |refine AD (t:=66) true rfl (by show((c.sl:Int)==0)=true;simp[oB]) (And.intro (λ_=> ?_) (λh=>by cases h))
    |refine AD (t:=672) true rfl (by simp[hf]) (And.intro (λ_=> ?_) (λh=>by cases h))
    |refine AD (t:=688) (decide (c.y+r.EA>9999)) rfl rfl ?_
    |refine tk ?_
    |(refine AB 140 ?_;refine cA.R [35] func140 rfl rfl (λ_=>mK 0 0 (2*c.so) c.sl c.st.length) rfl rfl rfl (λ_=>U) rfl ?_)
    |(refine AB 141 ?_;refine cA.R MG func141 rfl rfl (λ_=>bL) rfl rfl rfl (λ_=>⟨⟨O,rfl,_,[],rfl,rfl⟩,U⟩) rfl ?_)
    |(refine AB 142 ?_;refine call142 (QA r c) (YB r c).1 (YB r c).2 mC.ab (by have:=mC.hi;have:=tB c.y;omega) rfl rfl rfl rfl rfl rfl ?_)
    |refine And.intro (λ_=>by show zA (c.y+r.EA);unfold zA;omega) ?_
    |(refine AB 48 ?_;refine YX r len (rO r c) {rO r c with y:=c.y+r.EA} (fC c) ⟨by show 2<=c.y+r.EA;omega,by show c.y+r.EA<=15000;omega⟩ D.m hr.rb rfl rfl rfl rfl rfl ?_)
    |refine CA ?_|refine an ?_ ?_|(intro Z;try simp at Z))
   ·rename_i hx _
    have ha:bK r (rO r c)=none:=by unfold bK;exact if_pos Z
    rw[if_neg (by simp[hx]),ha]at h5
    subst h5
    exact⟨RK 0 (List.replicate 26 (.any λ_=>True)++[.s 35 0 (rE r c).1.length, .s 35 0 (nD c.st (rE r c).1).length,B true, .any λ_=>True]) rfl RQ (PD ⟨[(26,35)],fJ (eL _ trivial eH)⟩)⟩
   ·rename_i hx qC _
    have ha:bK r (rO r c)=some {rO r c with y:=c.y+r.EA}:=by unfold bK;exact if_neg (by show¬c.y+r.EA>9999;omega)
    rw[if_neg (by simp[hx]),ha]at h5
    refine⟨⟨(n,{rO r c with y:=c.y+r.EA}),⟨by show 2<=c.y+r.EA/\c.y+r.EA<=9999;omega,D.m,D.d,D.hh,D.mi,D.s,D.wd,D.ts,by show 0<=c.total+_;omega,gJ,λ_=>rfl⟩,?_,?_,?_,h5⟩,[(26,37),(27,38),(28,39),(29,40),(30,41),(31,42),(32,43),(33,44)],Nat.lt_succ_self n,eJ _ eF eH⟩
    ·show(10000- (c.y+r.EA)).toNat<=n;unfold jN at h2;omega
    ·have:jN c<=n+1:=h2
     unfold jN at this;omega
    ·show c.total+((rE r c).1.length:Int)+40000*(n:Int)<=_;omega
  ·have e:TC bK r (n+1) c= .inl c:=by unfold TC;rw[if_pos oB]
   rw[e]at h5
   subst h5
   repeat' (first
    |refine AD (t:=66) false rfl (by show((c.sl:Int)==0)=false;simp;exact oB) (And.intro (λh=>by cases h) (λ_=> ?_))
    |refine tk ?_
    |(refine AB 140 ?_;refine cA.R [35] func140 rfl rfl (λ_=>mK 0 0 (2*c.so) c.sl c.st.length) rfl rfl rfl (λ_=>U) rfl ?_)
    |refine CA ?_|refine an ?_ ?_|(intro Z;try simp at Z))
   exact⟨[],eN eF eH⟩
end En
end Go.Proofs.YtkidgehblodbcaaGreatDoor
