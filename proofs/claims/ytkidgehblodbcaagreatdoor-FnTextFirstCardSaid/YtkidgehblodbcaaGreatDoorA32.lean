/- A part of the proof of FnTextFirst: generate, walked. -/
import Derived.Test.YtkidgehblodbcaaGreatDoorA30
set_option linter.all false
set_option maxRecDepth 100000
set_option maxHeartbeats 16000000
namespace Go.Proofs.YtkidgehblodbcaaGreatDoor
namespace En
open Go.RowKit Go.Proofs.Tryz
theorem HBA {C:Cx} {H:HS} {Y:Nat} {c0:Bool} {k:QD->Prop} {fn:Func} (x:IT) (r:RR) (len:Int) (h mi s:Int) (l:List Int) (R0:HS) (yP:R0=[(0,some (.st (kE x))),(1,some (.ro (QE r len))),(23,some (.X 2 51 (iA x.ts)))]) (hc:Fn prog 50 [.p 0 7, .p 0 23,I r.BA,I h,I mi,I s] R0 26 (.jA []) [(0,some (.st (DJ x l))),(26,some (.X 2 51 (iA l)))] 27) (hf:prog.funcs[50]? =some fn) (hP:C.P=prog) (Z:fn.body.isNone=false)
  (dB:MI MG R0 26 27 Y=true) (hT:H=gH x r len (.X 2 51 (iA x.ts)))
  (hk:k ⟨.jA [],[(0,some (.st (XB {x with ts:=l} 26 27 28 29 30 31 32 33 Y 35 36))),(34,none),(Y,some (.X 2 51 (iA l)))],Y+1+1,MG⟩):cA C 50 [.p 0 7, .p 0 23,I r.BA,I h,I mi,I s] H Y c0 k:=by
 subst yP hT
 exact cA.F MG hf hP Z (λ_=>hc) dB rfl (λ_=>⟨rfl,⟨_,[],rfl,by simp[DA.cells];rfl⟩,by show _=some (DA.X 2 51 (YA _ (iA x.ts)));rw[SC];rfl,U⟩) (s:= .jA []) rfl
  (wh:=[(0,some (.st (XB {x with ts:=l} 26 27 28 29 30 31 32 33 Y 35 36))),(34,none),(Y,some (.X 2 51 (iA l)))])
  (by show[(0,some (DA.st (YA _ _))),(34,none),(Y,some (DA.X 2 51 (YA _ (iA _))))]=_;rw[SC];rfl) hk
abbrev cS (c:CR) (h m s q:Int):CR:={c with hh:=h,mi:=m,s:=s,d:=c.d+q}
structure SX (r:RR) (R:Int) (k:Nat) (h m s q:Int):Prop where
 fh:0<=h/\h<=23
 fm:0<=m/\m<=59
 fs:0<=s/\s<=90000
 fq:0<=q
 fb:86400*q+3600*h+60*m+s<=200000000-1000*(k:Int)
 fe:OE (pS r) r.EA k (86400*q+3600*h+60*m+s)=some R
def sI (r:RR) (len:Int) (c:CR) (R:Int):MB {s:Nat×Int×Int×Int×Int//SX r R s.1 s.2.1 s.2.2.1 s.2.2.2.1 s.2.2.2.2}where
 F s:=[(0, .u (.p 0 0)),(2, .u (.p 1 0)),(42, .u (B (decide (s.1.2.2.2.2≠0))))]
 H s:=gH (sC (QA r c) (cS c s.1.2.1 s.1.2.2.1 s.1.2.2.2.1 s.1.2.2.2.2)) r len (fC c)
 n s:=37
theorem IBA {w:World} {W:Nat->Prop} {G:wA} {g:GW w W} {Q:QT} (r:RR) (len:Int) (c:CR) (s0 R:Int) (hi:1<=r.EA/\r.EA<=1000) (Is:r.bh.length<=1000) (oe:r.bi.length<=1000) (gM:r.bs.length<=1000) (UU:0<=c.hh/\c.hh<=23) (NK:0<=c.mi/\c.mi<=59) (xM:0<=s0/\s0<=90000) (hd:1<=c.d/\c.d<=31) (hR:OE (pS r) r.EA 86400 (3600*c.hh+60*c.mi+s0)=some R):
  En.T (cx w W f103.ntmps (KA fE) 26 G g) ((f103.body.bind (zH 18)).getD .skip) [(0, .u (.p 0 0)),(2, .u (.p 1 0)),(42, .u (B (false)))]
   (gH (sC (QA r c) {c with s:=s0}) r len (fC c)) 37
   (yE (cx w W f103.ntmps (KA fE) 26 G g) [(0, .u (.p 0 0)),(2, .u (.p 1 0)),(42, .u (B (decide (R/86400≠0))))] (gH (sC (QA r c) (cS c (R/3600%24) (R/60%60) (R%60) (R/86400))) r len (fC c)) 37 Q):=by
 repeat' (first
  |refine tk ?_
  |refine CA ?_|refine an ?_ ?_|(intro Z;try simp at Z))
 refine FB (sI r len c R) (λs=>s.1.1) ?_ ?_
 ·have z:3600*c.hh+60*c.mi+s0=86400*0+3600*c.hh+60*c.mi+s0:=O
  rw[z]at hR
  refine⟨⟨(86400,c.hh,c.mi,s0,0),UU,NK,xM,Int.le_refl 0,by show 86400*0+3600*c.hh+60*c.mi+s0<=200000000-1000*((86400:Nat):Int);omega,hR⟩,[],U,eN ⟨rfl,rfl,rfl,U⟩ ?_⟩
  show lC _ _ (gH (sC (QA r c) {c with hh:=c.hh,mi:=c.mi,s:=s0,d:=c.d+0}) r len (fC c))
  rw[show c.d+0=c.d by omega];exact eH
 ·rintro⟨⟨k,h,m,s,q⟩,g⟩
  intro F H Y hF hH hn;dsimp only[sI]at hF hH hn;subst hF hH hn
  have gh:=g.fh
  have gm:=g.fm
  have gs:=g.fs
  have gq:=g.fq
  have gb:=g.fb
  have g3:=g.fe
  dsimp only at gh gm gq gb g3 gs
  obtain⟨k,rfl⟩:∃k',k=k'+1:=by
   cases k with
   |zero=>exact absurd g3 (by unfold OE;simp)
   |succ k=>exact⟨k,rfl⟩
  unfold OE at g3
  obtain⟨t,ht⟩:∃t,t=86400*q+3600*h+60*m+s+r.EA:=⟨_,rfl⟩
  rw[<-ht]at g3
  repeat' (first
   |refine pC (x:= .seq (.region 140 _ _) _) [(0, .u (.p 0 0)),(2, .u (.p 1 0)),(42, .u (B (decide (t/86400≠0))))] (gH (sC (QA r c) (cS c (t/3600%24) (t/60%60) (t%60) (t/86400))) r len (fC c)) 37 ?_ ?_
   |refine AD (t:=1188) (decide ((s+r.EA)/60≠0)) rfl (by rw[Bool.eq_iff_iff];simp) ?_
   |refine AD (t:=1210) (decide ((m+(s+r.EA)/60)/60≠0)) rfl (by rw[Bool.eq_iff_iff];simp) ?_
   |refine AD (t:=1232) (decide ((h+(m+(s+r.EA)/60)/60)/24≠0)) rfl (by rw[Bool.eq_iff_iff];simp) ?_
   |refine AD (t:=1299) (pS r t) rfl (by simp only[FM];unfold pS;rw[Bool.eq_iff_iff];simp;exact Iff.rfl) ?_
   |refine tk ?_
   |refine And.intro (λ_=>by show zA (s+r.EA);unfold zA;omega) ?_
   |refine And.intro (λ_=>by show zA (m+(s+r.EA)/60);unfold zA;omega) ?_
   |refine And.intro (λ_=>by show zA (h+(m+(s+r.EA)/60)/60);unfold zA;omega) ?_
   |refine And.intro (λ_=>by show zA (c.d+q+(h+(m+(s+r.EA)/60)/60)/24);unfold zA;omega) ?_
   |refine cz 99 func99 (λ_=>wO (s+r.EA) 60 O O) ?_
   |refine cz 99 func99 (λ_=>wO (m+(s+r.EA)/60) 60 O O) ?_
   |refine cz 99 func99 (λ_=>wO (h+(m+(s+r.EA)/60)/60) 24 O O) ?_
   |(refine WC 49 (.s 10 0 _::_) ?_;refine cA.R [10] func49 rfl rfl (λ_=>EG r.bh _ O) rfl rfl rfl BC rfl ?_)
   |(refine WC 49 (.s 11 0 _::_) ?_;refine cA.R [11] func49 rfl rfl (λ_=>EG r.bi _ O) rfl rfl rfl BC rfl ?_)
   |(refine WC 49 (.s 12 0 _::_) ?_;refine cA.R [12] func49 rfl rfl (λ_=>EG r.bs _ O) rfl rfl rfl BC rfl ?_)
   |refine CA ?_|refine an ?_ ?_|(intro Z;try simp at Z))
  ·have bE:(s+r.EA)/60≠0:=by assumption
   have jD:(m+(s+r.EA)/60)/60≠0:=by assumption
   have lH:(h+(m+(s+r.EA)/60)/60)/24≠0:=by assumption
   have q0:(h+(m+(s+r.EA)/60)/60)%24=t/3600%24:=O
   have q1:(m+(s+r.EA)/60)%60=t/60%60:=O
   have q2:(s+r.EA)%60=t%60:=O
   have qd:c.d+q+(h+(m+(s+r.EA)/60)/60)/24=c.d+t/86400:=O
   have qf:t/86400≠0:=O
   refine⟨[],eN ⟨rfl,rfl,wL (by simp[qf]),U⟩ ?_⟩
   show lC _ _ (gH (sC (QA r c) {c with hh:=t/3600%24,mi:=t/60%60,s:=t%60,d:=c.d+t/86400}) r len (fC c))
   rw[<-q0,<-q1,<-q2,<-qd];exact eH
  ·have bE:(s+r.EA)/60≠0:=by assumption
   have jD:(m+(s+r.EA)/60)/60≠0:=by assumption
   have lH:(h+(m+(s+r.EA)/60)/60)/24=0:=by assumption
   have q0:h+(m+(s+r.EA)/60)/60=t/3600%24:=O
   have q1:(m+(s+r.EA)/60)%60=t/60%60:=O
   have q2:(s+r.EA)%60=t%60:=O
   have qd:c.d+q=c.d+t/86400:=O
   have qf:decide (q≠0)=decide (t/86400≠0):=by rw[show t/86400=q by omega]
   refine⟨[],eN ⟨rfl,rfl,wL qf,U⟩ ?_⟩
   show lC _ _ (gH (sC (QA r c) {c with hh:=t/3600%24,mi:=t/60%60,s:=t%60,d:=c.d+t/86400}) r len (fC c))
   rw[<-q0,<-q1,<-q2,<-qd];exact eH
  ·have bE:(s+r.EA)/60≠0:=by assumption
   have jD:(m+(s+r.EA)/60)/60=0:=by assumption
   have q0:h=t/3600%24:=O
   have q1:m+(s+r.EA)/60=t/60%60:=O
   have q2:(s+r.EA)%60=t%60:=O
   have qd:c.d+q=c.d+t/86400:=O
   have qf:decide (q≠0)=decide (t/86400≠0):=by rw[show t/86400=q by omega]
   refine⟨[],eN ⟨rfl,rfl,wL qf,U⟩ ?_⟩
   show lC _ _ (gH (sC (QA r c) {c with hh:=t/3600%24,mi:=t/60%60,s:=t%60,d:=c.d+t/86400}) r len (fC c))
   rw[<-q0,<-q1,<-q2,<-qd];exact eH
  ·have bE:(s+r.EA)/60=0:=by assumption
   have q0:h=t/3600%24:=O
   have q1:m=t/60%60:=O
   have q2:s+r.EA=t%60:=O
   have qd:c.d+q=c.d+t/86400:=O
   have qf:decide (q≠0)=decide (t/86400≠0):=by rw[show t/86400=q by omega]
   refine⟨[],eN ⟨rfl,rfl,wL qf,U⟩ ?_⟩
   show lC _ _ (gH (sC (QA r c) {c with hh:=t/3600%24,mi:=t/60%60,s:=t%60,d:=c.d+t/86400}) r len (fC c))
   rw[<-q0,<-q1,<-q2,<-qd];exact eH
  ·rw[if_pos Z]at g3
   cases g3
   exact⟨[],eN ⟨rfl,rfl,rfl,U⟩ eH⟩
  ·rw[if_neg (by rw[Z];decide)]at g3
   have z:86400*(t/86400)+3600*(t/3600%24)+60*(t/60%60)+t%60=t:=O
   exact⟨⟨(k,t/3600%24,t/60%60,t%60,t/86400),⟨⟨by show 0<=t/3600%24;omega,by show t/3600%24<=23;omega⟩,⟨by show 0<=t/60%60;omega,by show t/60%60<=59;omega⟩,⟨by show 0<=t%60;omega,by show t%60<=90000;omega⟩,by show 0<=t/86400;omega,by show 86400*(t/86400)+3600*(t/3600%24)+60*(t/60%60)+t%60<=200000000-1000*(k:Int);omega,by show OE (pS r) r.EA k (86400*(t/86400)+3600*(t/3600%24)+60*(t/60%60)+t%60)=some R;rw[z];exact g3⟩⟩,[],Nat.lt_succ_self k,eN ⟨rfl,rfl,rfl,U⟩ eH⟩
end En
end Go.Proofs.YtkidgehblodbcaaGreatDoor
