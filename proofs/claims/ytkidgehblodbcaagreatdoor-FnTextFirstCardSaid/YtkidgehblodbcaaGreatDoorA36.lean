/- A part of the proof of FnTextFirst: a rule is built and its first dates are taken, walked. -/
import Derived.Test.YtkidgehblodbcaaGreatDoorA13
import Derived.Test.YtkidgehblodbcaaGreatDoorA35
set_option linter.all false
set_option maxRecDepth 100000
set_option maxHeartbeats 16000000
namespace Go.Proofs.YtkidgehblodbcaaGreatDoor
namespace En
open Go.RowKit Go.Proofs.Tryz
theorem cBA {C:Cx} {c:Code} {F:FS} {H:HS} {Y:Nat} {Q:QT} (b j j2 es:Nat) (e:TypeId) {xs:List SV} (ys:List SV) (hl:WA H b=some (.st xs)) (hj:xs[j]? =some (.v (.slice none 0 0))) (vB:(xs.set j (.s Y 0 0))[j2]? =some (.v (.slice none 0 0))) (hy:ys=(xs.set j (.s Y 0 0)).set j2 (.s Y 0 0)) (h:T C c F ((b,some (.st ys))::(Y,some (.X es e []))::H) (Y+1) Q):T C c F H Y Q:=by
 subst hy
 refine⟨λG a w hf=> ?_⟩
 let uA:wA:=λi=>if i=Y then .nil else G i
 have b1:uA Y= .nil:=by simp[uA]
 have b2:∀i,i≠Y->uA i=G i:=λi hi=>by simp[uA,hi]
 have NH:=hf.iD Y qA
 have xF:uD G uA:=λi hi=>by
  by_cases e:i=Y
  ·subst e;exact absurd NH hi
  ·exact b2 i e
 have M:=hf.ms.heap
 have Z:b≠Y:=λe'=>by
  subst e'
  obtain⟨_,_,_,_,h,_⟩:=M.ok b _ hl
  rw[NH]at h;cases h
 refine h.ok uA a w ⟨λi hi=> ?_,Nat.le_succ_of_le hf.le,λi hi=> ?_,⟨?_,hf.ms.size,hf.ms.defers,λu r hu=> ?_⟩⟩
 ·rw[b2 i O];exact hf.iD i O
 ·have:=hf.le
  rw[b2 i O];exact hf.PK i hi
 ·have NJ:∀i k,WA ((b,some (.st ((xs.set j (.s Y 0 0)).set j2 (.s Y 0 0))))::(Y,some (.X es e []))::H) i=some k->(i=b/\k= .st ((xs.set j (.s Y 0 0)).set j2 (.s Y 0 0)))\/(i=Y/\k= .X es e [])\/(i≠Y/\i≠b/\WA H i=some k):=λi k hi=>by
   simp only[WA]at hi
   by_cases e':b=i
   ·rw[if_pos e']at hi;cases hi;exact .inl ⟨e'.symm,rfl⟩
   ·rw[if_neg e']at hi
    by_cases DL:Y=i
    ·rw[if_pos DL]at hi;cases hi;exact .inr (.inl ⟨DL.symm,rfl⟩)
    ·rw[if_neg DL]at hi;exact .inr (.inr ⟨Ne.symm DL,Ne.symm e',hi⟩)
  have fix:∀i k,WA ((b,some (.st ((xs.set j (.s Y 0 0)).set j2 (.s Y 0 0))))::(Y,some (.X es e []))::H) i=some k->i≠Y->∃k',WA H i=some k'/\(k.own=true->k'.own=true):=λi k hi hn=>by
   rcases NJ i k hi with⟨rfl,rfl⟩|⟨rfl,rfl⟩|⟨_,_,h2⟩
   ·exact⟨_,hl,λ_=>rfl⟩
   ·exact absurd rfl hn
   ·exact⟨k,h2,λh=>h⟩
  have one:∀{zs:List SV} {cs:List Value} {q:Nat},ZA uA zs cs->zs[q]? =some (.v (.slice none 0 0))->ZA uA (zs.set q (.s Y 0 0)) cs:=λ{zs cs q} d hq=>by
   obtain⟨y,JH,JI⟩:=ZA.get _ _ d q _ hq
   simp only[aA]at JI
   subst JI
   have d3:=ZA.set (i:=q) d (x:= .s Y 0 0) (y:= .slice none 0 0) (by simp only[aA];exact .inl ⟨b1,U,U,U⟩)
   have e3:cs.set q (.slice none 0 0)=cs:=by
    have fA:=(List.getElem?_eq_some_iff.1 JH).1
    have:=(List.getElem?_eq_some_iff.1 JH).2
    rw[<-this,List.set_getElem_self]
   rw[e3]at d3
   exact d3
  refine⟨M.os,M.tape,M.output,M.size,M.eE,λi k hi=> ?_,λi k hi ho r o c eb=> ?_,λi j' k k' hi qL ho LC r o c o' c' eb wD=> ?_⟩
  ·rcases NJ i k hi with⟨rfl,rfl⟩|⟨rfl,rfl⟩|⟨D,_,h2⟩
   ·obtain⟨r,c,e0,cs,e1,e2,d⟩:=M.ok _ _ hl
    exact⟨r,c,e0,cs,xF.at e1,e2,one (one (ZA.ext xF _ _ d) hj) vB⟩
   ·exact .inl ⟨b1,rfl⟩
   ·exact yC.ext xF qA (λ_ _ _ _=>rfl) k (M.ok i k h2)
  ·by_cases NE:i=Y
   ·subst NE;rw[b1]at eb;cases eb
   ·obtain⟨k',D,h2⟩:=fix i k hi NE
    rw[b2 i NE]at eb;exact M.own i k' D (h2 ho) r o c eb
  ·by_cases NE:i=Y
   ·subst NE;rw[b1]at eb;cases eb
   ·by_cases VR:j'=Y
    ·subst VR;rw[b1]at wD;cases wD
    ·obtain⟨k1,D,h2⟩:=fix i k hi NE
     obtain⟨k2,h3,h4⟩:=fix j' k' qL VR
     rw[b2 i NE]at eb;rw[b2 j' VR]at wD
     exact M.inj i j' k1 k2 D h3 (h2 ho) LC r o c o' c' eb wD
 ·obtain⟨D,h2⟩:=hf.ms.gC u r hu
  exact⟨D,h2.ext xF⟩
theorem dBA:∀f4 f5 f6 z1 z2 z3 c1 c2 c3:Bool,(if(if(if(if f4=true then !z1 else false)=true then !c1 else false)=true then true else(if(if f5=true then !z2 else false)=true then !c2 else false))=true then true else(if(if f6=true then !z3 else false)=true then !c3 else false))= !((!f4||(z1||c1))&&(!f5||(z2||c2))&&(!f6||(z3||c3))):=by decide
def eX (y m d hh mi s wd:Int):IT:=⟨y,m,d,hh,mi,s,wd,0,0,0,0,0,0,[],[],[],[],[],[],[],[],[],0,0,[],0,0,false,[]⟩
abbrev CI (y m d hh mi s wd:Int):CR:=⟨y,m,d,hh,mi,s,wd,[],0,0,[],0,0,[]⟩
theorem eBA (r:RR) (y m d hh mi s wd:Int) (h:y≠0):EF (eX y m d hh mi s wd) r y m=QA r (CI y m d hh mi s wd):=by
 unfold EF zR
 have e1:¬y=(eX y m d hh mi s wd).ly:=h
 rw[if_neg e1]
 have xG:FH {MN (eX y m d hh mi s wd) y with wn:=eG r y} r y m=BG r y m:=by
  unfold FH BG
  by_cases h0:0<r.vA.length
  ·rw[if_pos h0,if_pos ⟨h0, .inr e1⟩];rfl
  ·rw[if_neg (λh=>h0 h.1),if_neg h0];rfl
 rw[xG];rfl
abbrev itI (x:IT):List SV:=XB x 16 17 18 19 20 21 22 23 24 25 26
def Mg (r:RR):HS:=[(1,some (.st (QE r 0))),(14,some (.X 2 51 (iA r.ts)))]++kZ r
def i22 (x:IT) (r:RR):HS:=[(15,some (.st (itI x))),(1,some (.st (QE r 0))),(16,some (.X 1 3 (A x.mm))),(17,some (.X 1 3 (A x.mr))),(18,some (.X 1 3 (A x.md))),(19,some (.X 1 3 (A x.nd))),(20,some (.X 1 3 (A x.XC))),(21,some (.X 1 3 (A x.wn))),(22,some (.X 1 3 (A x.nw))),(23,some (.X 1 3 (A x.ea))),(24,some (.X 2 51 (iA x.ts))),(25,some (.X 2 51 (iA x.st))),(26,some (.X 2 194 (uC x.ds)))]++kZ r
theorem TS {LA:Nat->Nat} {H H':HS} (h:lC LA H H':=by repeat' (first|exact trivial|refine And.intro (gA rfl rfl) ?_|refine And.intro (TB rfl (by first|rfl|(simp[DA.cells];done)|(simp[DA.cells];rfl))) ?_|refine And.intro (bD rfl rfl) ?_|refine And.intro (dW rfl rfl) ?_|refine And.intro rfl ?_)):lC LA H H':=h
abbrev ba:List Nat:=[15,1,2,3,4,5,6,7,8,9,10,11,12,13,14,16,17,18,19,20,21,22,23,24,25,26]
theorem fBA (J:MA) (h:31536000<=J.GA/\J.GA<=284100000000) (hr:RB (JA J)) (hf:0<=J.BA/\J.BA<=6) (rM:(JA J).bh.length<=60/\(JA J).bi.length<=60/\(JA J).bs.length<=60/\(JA J).bi.length*(JA J).bs.length<=100/\(∀m∈(JA J).bi,0<=m/\m<=59)/\∀s∈(JA J).bs,0<=s/\s<=59):
  Fn prog 22 [.p 1 0] (Mg (JA J)) 15 (.fn (.func 51) [.p 15 0] []) (i22 (QA (JA J) (PC J)) (JA J)) 27:=by
 obtain⟨r,xK⟩:∃r,r=JA J:=⟨_,rfl⟩
 have oG:J.GA=r.dt:=by rw[xK];rfl
 have TQ:=oR J.GA 0 O
 have cU:=CQ J.GA 0 O
 have kG:=XW J.GA 0 O
 have sF:=YW ((J.GA/86400+1)%7) O
 rw[show((J.GA/86400+1)%7+6)%7=J.GA/86400%7 by omega]at sF
 rw[oG]at TQ cU kG sF
 refine fm (KA 170141183460469231731687866665837527053) func22 λw W G g=> ?_
 rw[<-xK]
 repeat' (first
  |refine FG 6 ?_
  |refine tk ?_
  |refine cz 44 func44 (λ_=>TQ) ?_
  |refine cz 45 func45 (λ_=>cU) ?_
  |refine cz 47 func47 (λ_=>kG) ?_
  |refine cz 46 func46 (λ_=>sF) ?_
  |refine CA ?_|refine an ?_ ?_|(intro Z;try simp at Z))
 refine Stop.mk ?_
 refine VD 15 15 1 3 _ rfl rfl rfl ?_
 refine VD 15 16 1 3 _ rfl rfl rfl ?_
 refine VD 15 17 1 3 _ rfl rfl rfl ?_
 refine VD 15 18 1 3 _ rfl rfl rfl ?_
 refine VD 15 19 1 3 _ rfl rfl rfl ?_
 refine VD 15 20 1 3 _ rfl rfl rfl ?_
 refine VD 15 21 1 3 _ rfl rfl rfl ?_
 refine VD 15 22 1 3 _ rfl rfl rfl ?_
 refine VD 15 23 2 51 _ rfl rfl rfl ?_
 refine cBA 15 26 27 2 51 _ rfl rfl rfl rfl ?_
 refine VD 15 29 2 194 _ rfl rfl rfl ?_
 obtain⟨y,hy⟩:∃y,y=oA (r.dt/86400):=⟨_,rfl⟩
 obtain⟨m,hm⟩:∃m,m=KB (r.dt/86400):=⟨_,rfl⟩
 obtain⟨d,hd⟩:∃d,d=JC (r.dt/86400):=⟨_,rfl⟩
 obtain⟨hh,Ng⟩:∃h,h=r.dt%86400/3600:=⟨_,rfl⟩
 obtain⟨mi,HU⟩:∃h,h=r.dt%86400/60%60:=⟨_,rfl⟩
 obtain⟨s,hs⟩:∃h,h=r.dt%86400%60:=⟨_,rfl⟩
 obtain⟨wd,KF⟩:∃h,h=r.dt/86400%7:=⟨_,rfl⟩
 have JI:2<=y/\y<=15000:=by
  rw[oG]at h
  have D:=rI (n:=r.dt/86400) (y:=2) (by have:before 2=365:=(by decide);omega)
  have h2:=OJ (n:=r.dt/86400) (y:=10000) (by have:before 10000=3652059:=(by decide);omega)
  omega
 have IL:1<=m/\m<=12:=by rw[hm];exact OI _ _
 refine mB (l:=[]) (F':=[(0, .u (.p 1 0)),(2, .u (.v .nilFunc)),(3, .u (.p 15 0))]) (H':=i22 (eX y m d hh mi s wd) r++[(14,some (.X 2 51 (iA r.ts)))]) (n':=27) ?_ ?_
 ·rw[hy,hm,hd,Ng,HU,hs,KF];exact eN eF TS
 rw[<-xK]at hr rM
 have js:=Gr (eX y m d hh mi s wd) r 0 y m JI IL (by show y≠0;omega) hr
 rw[eBA r y m d hh mi s wd O]at js
 repeat' (first
  |refine FG 7 ?_
  |refine tk ?_
  |(refine AB 48 ?_;refine cA.F ba (s:= .jA []) (wh:=[(15,some (.st (XB (QA r (CI y m d hh mi s wd)) 27 28 29 30 31 32 33 34 24 25 26))),(16,none),(17,none),(18,none),(19,none),(20,none),(21,none),(22,none),(23,none),(27,some (.X 1 3 (A (QA r (CI y m d hh mi s wd)).mm))),(28,some (.X 1 3 (A (QA r (CI y m d hh mi s wd)).mr))),(29,some (.X 1 3 (A (QA r (CI y m d hh mi s wd)).md))),(30,some (.X 1 3 (A (QA r (CI y m d hh mi s wd)).nd))),(31,some (.X 1 3 (A (QA r (CI y m d hh mi s wd)).XC))),(32,some (.X 1 3 (A (QA r (CI y m d hh mi s wd)).wn))),(33,some (.X 1 3 (A (QA r (CI y m d hh mi s wd)).nw))),(34,some (.X 1 3 (A (QA r (CI y m d hh mi s wd)).ea)))]) func48 rfl rfl (λ_=>js) rfl rfl (λ_=>⟨rfl,⟨_,[],rfl,by simp[DA.cells];rfl⟩,wB,wB,wB,wB,wB,wB,wB,wB,mS,mS,mS,mS,U⟩) rfl (by show[(15,some (DA.st (YA _ (af (QA r (CI y m d hh mi s wd)))))),(16,none),(17,none),(18,none),(19,none),(20,none),(21,none),(22,none),(23,none),(27,some (DA.X 1 3 (YA _ (A _)))),(28,some (DA.X 1 3 (YA _ (A _)))),(29,some (DA.X 1 3 (YA _ (A _)))),(30,some (DA.X 1 3 (YA _ (A _)))),(31,some (DA.X 1 3 (YA _ (A _)))),(32,some (DA.X 1 3 (YA _ (A _)))),(33,some (DA.X 1 3 (YA _ (A _)))),(34,some (DA.X 1 3 (YA _ (A _))))]=_;simp only[kD];try rfl) ?_)
  |refine CA ?_|refine an ?_ ?_|(intro Z;try simp at Z))
 refine Stop.mk ?_
 refine mB (l:=[(16,27),(17,28),(18,29),(19,30),(20,31),(21,32),(22,33),(23,34)]) (F':=[(0, .u (.p 1 0)),(2, .u (.v .nilFunc)),(3, .u (.p 15 0))]) (H':=i22 (QA r (CI y m d hh mi s wd)) r++[(14,some (.X 2 51 (iA r.ts)))]) (n':=27) ?_ ?_
 ·exact eL _ eF TS
 have ec:PC J={CI y m d hh mi s wd with ts:=VG J,count:=r.EB}:=by
  rw[hy,hm,hd,Ng,HU,hs,KF,<-oG,xK];rfl
 have KG:r.BA=J.BA:=by rw[xK];rfl
 have iG:0<=r.dt%86400/\r.dt%86400<86400:=O
 rw[ec]
 by_cases h4:J.BA<4
 ·have sD:VG J=r.ts:=by unfold VG;dsimp only;rw[if_pos h4,xK]
  rw[sD]
  repeat' (first
   |refine AD (t:=49) true rfl eA (And.intro (λ_=> ?_) (λh=>by cases h))
   |refine tk ?_
   |refine CA ?_|refine an ?_ ?_|(intro Z;try simp at Z))
  exact⟨[(24,14)],eL _ ⟨rfl,U⟩ TS⟩
 ·have HE:∀{p q:Prop},True:=trivial
  obtain⟨P,hP⟩:∃P,P=((!decide (J.BA>=4)||(((r.bh.length:Int)==0)||r.bh.contains hh))&&(!decide (J.BA>=5)||(((r.bi.length:Int)==0)||r.bi.contains mi))&&(!decide (J.BA>=6)||(((r.bs.length:Int)==0)||r.bs.contains s))):=⟨_,rfl⟩
  have hV:=dBA (decide (r.BA>=4)) (decide (r.BA>=5)) (decide (r.BA>=6)) ((r.bh.length:Int)==0) ((r.bi.length:Int)==0) ((r.bs.length:Int)==0) (r.bh.contains hh) (r.bi.contains mi) (r.bs.contains s)
  rw[KG,<-hP]at hV
  rcases Bool.eq_false_or_eq_true P with hq|hq
  ·rcases(by omega:J.BA=4\/J.BA=5\/J.BA=6)with h5|h5|h5
   ·have sD:VG J=YE (AF (hh*3600) r.bi r.bs):=by
     have e:pH (JA J) (J.GA%86400/3600)=true:=by
      rw[hP,decide_eq_true O,decide_eq_false O,decide_eq_false O]at hq
      unfold pH;rw[<-xK,oG,show r.dt%86400/3600%24=hh by omega]
      simpa using hq
     unfold VG;dsimp only
     rw[if_neg O,if_pos h5,if_pos e,oG,<-Ng,<-xK];rfl
    have eQ:=bp (QA r (CI y m d hh mi s wd)) r 0 hh mi s O rM.2.2.2.2.1 rM.2.2.2.2.2 rM.2.1 rM.2.2.1 O
    rw[show(4:Int)=r.BA by omega]at eQ
    rw[sD]
    repeat' (first
     |refine AD (t:=49) false rfl eA (And.intro (λh=>by cases h) (λ_=> ?_))
     |refine AD (t:=127) false rfl (by rw[KG];exact hV.trans (by rw[hq];rfl)) (And.intro (λh=>by cases h) (λ_=> ?_))
     |refine tk ?_
     |(refine WC 49 (.s 10 0 _::_) ?_;refine cA.R [10] func49 rfl rfl (λ_=>EG r.bh hh O) rfl rfl rfl BC rfl ?_)
     |(refine WC 49 (.s 11 0 _::_) ?_;refine cA.R [11] func49 rfl rfl (λ_=>EG r.bi mi O) rfl rfl rfl BC rfl ?_)
     |(refine WC 49 (.s 12 0 _::_) ?_;refine cA.R [12] func49 rfl rfl (λ_=>EG r.bs s O) rfl rfl rfl BC rfl ?_)
     |(refine AB 50 ?_;refine cA.F ba (s:= .jA []) (wh:=[(15,some (.st (XB {QA r (CI y m d hh mi s wd)with ts:=YE (AF (hh*3600) r.bi r.bs)} 16 17 18 19 20 21 22 23 27 25 26))),(24,none),(27,some (.X 2 51 (iA (YE (AF (hh*3600) r.bi r.bs)))))]) func50 rfl rfl (λ_=>eQ) rfl rfl (λ_=>⟨rfl,⟨_,[],rfl,by simp[DA.cells];rfl⟩,mS,mS,by show _=some (DA.X 2 51 (YA _ (iA _)));rw[SC];rfl,U⟩) rfl (by show[(15,some (DA.st (YA _ _))),(24,none),(27,some (DA.X 2 51 (YA _ (iA _))))]=_;simp only[SC];try rfl) ?_)
     |refine CA ?_|refine an ?_ ?_|(intro Z;try simp at Z))
    exact⟨[(24,27)],eL _ ⟨rfl,U⟩ TS⟩
   ·have sD:VG J=YE (oD (hh*3600+mi*60) r.bs):=by
     have e:pM (JA J) (J.GA%86400/60)=true:=by
      rw[hP,decide_eq_true O,decide_eq_true O,decide_eq_false O]at hq
      unfold pM;rw[<-xK,oG,show r.dt%86400/60/60%24=hh by omega,show r.dt%86400/60%60=mi by omega]
      simpa using hq
     unfold VG;dsimp only
     rw[if_neg O,if_neg O,if_pos h5,if_pos e,oG,<-xK,show r.dt%86400/60/60%24=hh by omega,show r.dt%86400/60%60=mi by omega];rfl
    have eQ:=Wp (QA r (CI y m d hh mi s wd)) r 0 hh mi s O O rM.2.2.2.2.2 rM.2.2.1
    rw[show(5:Int)=r.BA by omega]at eQ
    rw[sD]
    repeat' (first
     |refine AD (t:=49) false rfl eA (And.intro (λh=>by cases h) (λ_=> ?_))
     |refine AD (t:=127) false rfl (by rw[KG];exact hV.trans (by rw[hq];rfl)) (And.intro (λh=>by cases h) (λ_=> ?_))
     |refine tk ?_
     |(refine WC 49 (.s 10 0 _::_) ?_;refine cA.R [10] func49 rfl rfl (λ_=>EG r.bh hh O) rfl rfl rfl BC rfl ?_)
     |(refine WC 49 (.s 11 0 _::_) ?_;refine cA.R [11] func49 rfl rfl (λ_=>EG r.bi mi O) rfl rfl rfl BC rfl ?_)
     |(refine WC 49 (.s 12 0 _::_) ?_;refine cA.R [12] func49 rfl rfl (λ_=>EG r.bs s O) rfl rfl rfl BC rfl ?_)
     |(refine AB 50 ?_;refine cA.F ba (s:= .jA []) (wh:=[(15,some (.st (XB {QA r (CI y m d hh mi s wd)with ts:=YE (oD (hh*3600+mi*60) r.bs)} 16 17 18 19 20 21 22 23 27 25 26))),(24,none),(27,some (.X 2 51 (iA (YE (oD (hh*3600+mi*60) r.bs)))))]) func50 rfl rfl (λ_=>eQ) rfl rfl (λ_=>⟨rfl,⟨_,[],rfl,by simp[DA.cells];rfl⟩,mS,by show _=some (DA.X 2 51 (YA _ (iA _)));rw[SC];rfl,U⟩) rfl (by show[(15,some (DA.st (YA _ _))),(24,none),(27,some (DA.X 2 51 (YA _ (iA _))))]=_;simp only[SC];try rfl) ?_)
     |refine CA ?_|refine an ?_ ?_|(intro Z;try simp at Z))
    exact⟨[(24,27)],eL _ ⟨rfl,U⟩ TS⟩
   ·have sD:VG J=[hh*3600+mi*60+s]:=by
     have e:pS (JA J) (J.GA%86400)=true:=by
      rw[hP,decide_eq_true O,decide_eq_true O,decide_eq_true O]at hq
      unfold pS;rw[<-xK,oG,show r.dt%86400/3600%24=hh by omega,show r.dt%86400/60%60=mi by omega,show r.dt%86400%60=s by omega]
      simpa using hq
     unfold VG;dsimp only
     rw[if_neg O,if_neg O,if_neg O,if_pos e,oG,show r.dt%86400/3600%24=hh by omega,show r.dt%86400/60%60=mi by omega,show r.dt%86400%60=s by omega]
    have eQ:=Up (QA r (CI y m d hh mi s wd)) r 0 hh mi s O O O
    rw[show(6:Int)=r.BA by omega]at eQ
    rw[sD]
    repeat' (first
     |refine AD (t:=49) false rfl eA (And.intro (λh=>by cases h) (λ_=> ?_))
     |refine AD (t:=127) false rfl (by rw[KG];exact hV.trans (by rw[hq];rfl)) (And.intro (λh=>by cases h) (λ_=> ?_))
     |refine tk ?_
     |(refine WC 49 (.s 10 0 _::_) ?_;refine cA.R [10] func49 rfl rfl (λ_=>EG r.bh hh O) rfl rfl rfl BC rfl ?_)
     |(refine WC 49 (.s 11 0 _::_) ?_;refine cA.R [11] func49 rfl rfl (λ_=>EG r.bi mi O) rfl rfl rfl BC rfl ?_)
     |(refine WC 49 (.s 12 0 _::_) ?_;refine cA.R [12] func49 rfl rfl (λ_=>EG r.bs s O) rfl rfl rfl BC rfl ?_)
     |(refine AB 50 ?_;refine cA.F ba (s:= .jA []) (wh:=[(15,some (.st (XB {QA r (CI y m d hh mi s wd)with ts:=[hh*3600+mi*60+s]} 16 17 18 19 20 21 22 23 27 25 26))),(24,none),(27,some (.X 2 51 (iA ([hh*3600+mi*60+s]))))]) func50 rfl rfl (λ_=>eQ) rfl rfl (λ_=>⟨rfl,⟨_,[],rfl,by simp[DA.cells];rfl⟩,by show _=some (DA.X 2 51 (YA _ (iA _)));rw[SC];rfl,U⟩) rfl (by show[(15,some (DA.st (YA _ _))),(24,none),(27,some (DA.X 2 51 (YA _ (iA _))))]=_;simp only[SC];try rfl) ?_)
     |refine CA ?_|refine an ?_ ?_|(intro Z;try simp at Z))
    exact⟨[(24,27)],eL _ ⟨rfl,U⟩ TS⟩
  ·have sD:VG J=[]:=by
    unfold VG;dsimp only
    rw[if_neg h4]
    rcases(by omega:J.BA=4\/J.BA=5\/J.BA=6)with h5|h5|h5
    ·have e:¬pH (JA J) (J.GA%86400/3600)=true:=by
      rw[hP,decide_eq_true O,decide_eq_false O,decide_eq_false O]at hq
      unfold pH;rw[<-xK,oG,show r.dt%86400/3600%24=hh by omega]
      intro e;rw[e]at hq;cases hq
     rw[if_pos h5,if_neg e]
    ·have e:¬pM (JA J) (J.GA%86400/60)=true:=by
      rw[hP,decide_eq_true O,decide_eq_true O,decide_eq_false O]at hq
      unfold pM;rw[<-xK,oG,show r.dt%86400/60/60%24=hh by omega,show r.dt%86400/60%60=mi by omega]
      intro e;rw[Bool.and_eq_true]at e;rw[e.1,e.2]at hq;cases hq
     rw[if_neg O,if_pos h5,if_neg e]
    ·have e:¬pS (JA J) (J.GA%86400)=true:=by
      rw[hP,decide_eq_true O,decide_eq_true O,decide_eq_true O]at hq
      unfold pS;rw[<-xK,oG,show r.dt%86400/3600%24=hh by omega,show r.dt%86400/60%60=mi by omega,show r.dt%86400%60=s by omega]
      intro e;rw[Bool.and_eq_true,Bool.and_eq_true]at e;rw[e.1.1,e.1.2,e.2]at hq;cases hq
     rw[if_neg O,if_neg O,if_neg e]
   rw[sD]
   repeat' (first
    |refine fW 13 ?_
    |refine AD (t:=49) false rfl eA (And.intro (λh=>by cases h) (λ_=> ?_))
    |refine AD (t:=127) true rfl (by rw[KG];exact hV.trans (by rw[hq];rfl)) (And.intro (λ_=> ?_) (λh=>by cases h))
    |refine tk ?_
    |(refine WC 49 (.s 10 0 _::_) ?_;refine cA.R [10] func49 rfl rfl (λ_=>EG r.bh hh O) rfl rfl rfl BC rfl ?_)
    |(refine WC 49 (.s 11 0 _::_) ?_;refine cA.R [11] func49 rfl rfl (λ_=>EG r.bi mi O) rfl rfl rfl BC rfl ?_)
    |(refine WC 49 (.s 12 0 _::_) ?_;refine cA.R [12] func49 rfl rfl (λ_=>EG r.bs s O) rfl rfl rfl BC rfl ?_)
    |refine CA ?_|refine an ?_ ?_|(intro Z;try simp at Z))
   refine Stop.mk ?_
   refine VD 15 23 2 51 _ rfl rfl rfl ?_
   repeat' (first
    |refine tk ?_
    |refine CA ?_|refine an ?_ ?_|(intro Z;try simp at Z))
   exact⟨[(24,27)],eL _ ⟨rfl,U⟩ TS⟩
end En
end Go.Proofs.YtkidgehblodbcaaGreatDoor
