/- A part of the proof of FnTextFirst: the dates one by one are those of the plain enumeration. -/
import Derived.Test.YtkidgehblodbcaaGreatDoorA03
set_option linter.all false
set_option maxRecDepth 100000
set_option maxHeartbeats 16000000
namespace Go.Proofs.YtkidgehblodbcaaGreatDoor
namespace En
structure Of (r:RR) (W:MA):Prop where
 BA:r.BA=W.BA
 dt:r.dt=W.GA
 EA:r.EA=W.IA
 wk:r.wk=W.HB
 XA:r.XA=W.xB
 sp:r.sp=W.OB
 bm:r.bm=W.VA
 FC:r.FC=W.TA.filter λn=>decide (0<n)
 GC:r.GC=W.TA.filter λn=>decide (n<0)
 PF:r.PF=W.LB
 uB:r.uB=W.sA
 VC:r.VC=(W.FA.filter λd=>d.2==0||decide (W.BA>1)).map (·.1)
 vA:r.vA=W.FA.filter λd=> !(d.2==0||decide (W.BA>1))
 bh:r.bh=W.SA
 bi:r.bi=W.PA
 bs:r.bs=W.RA
 be:r.be=W.NB
structure wM (W:MA):Prop where
 BA:0<=W.BA/\W.BA<=6
 wk:0<=W.HB/\W.HB<=6
 VA:∀m∈W.VA,1<=m/\m<=12
 md:∀d∈W.TA,d≠0
 wn:∀n∈W.sA,n≠0/\-51<=n/\n<=51
 be:∀o∈W.NB,-80<=o/\o<=80
 FA:∀p∈W.FA,0<=p.1/\p.1<=6
 Md:(∀p∈W.FA,p.2=0)\/(∀p∈W.FA,p.2≠0)
 Gm:W.BA>1->∀p∈W.FA,p.2=0
 nT:W.BA=2->W.TA=[]/\W.LB=[]/\W.sA=[]/\W.NB=[]
 KFA:W.BA=1->W.sA=[]/\W.NB=[]
theorem nN {PB:Type} (l:List PB):((l.length:Int) !=0)= !l.isEmpty:=by cases l<;>simp;omega
theorem vT {y:Int} {i:Nat} (h:(i:Int)<365+lp y):oA (before y+i)=y/\KB (before y+i)=BE (lp y) i/\JC (before y+i)=i-GB (lp y) (BE (lp y) i)+1:=by
 have hy:oA (before y+i)=y:=MR O (by rw[NG];omega)
 have hi:idxOf (before y+i)=i:=by unfold idxOf;rw[hy];omega
 have hm:KB (before y+i)=BE (lp y) i:=by unfold KB;rw[hy,hi]
 exact⟨hy,hm,by unfold JC;rw[hm,hi,hy]⟩
theorem wT (y:Int):lp y=0\/lp y=1:=by have:=tB y;omega
theorem JW {y m:Int} (h:1<=m/\m<=12):fB y m=GB (lp y) (m+1)-GB (lp y) m:=by rw[FL h.1 h.2];omega
section
variable {r:RR} {W:MA} {c:CR} {i:Nat} (o:Of r W) (k:wM W) (hi:(i:Int)<365+lp c.y)
include o hi
theorem F3:((r.bm.length:Int) !=0&& !r.bm.contains ((QA r c).mm.getD i 0))= !CC W.VA (KB (before c.y+i)):=by
 rw[nN,o.bm,(vT hi).2.1]
 show(!W.VA.isEmpty&& !W.VA.contains ((RJ (lp c.y)).getD i 0))=_
 rw[(Gd (wT c.y) hi).1]
 unfold CC;cases W.VA.isEmpty<;>simp
theorem G3 (k:wM W):(((r.FC.length:Int) !=0||(r.GC.length:Int) !=0)&& !r.FC.contains ((QA r c).md.getD i 0)&& !r.GC.contains ((QA r c).nd.getD i 0))= !tI W.TA (JC (before c.y+i)) (fB (oA (before c.y+i)) (KB (before c.y+i))):=by
 obtain⟨e1,e2,e3⟩:=vT hi
 have hm:=OI (lp c.y) i
 have hs:=jT (tB c.y) (k:=i) ⟨O,hi⟩
 rw[e1,e2,e3,JW hm]
 show(((r.FC.length:Int) !=0||(r.GC.length:Int) !=0)&& !r.FC.contains ((YK (lp c.y)).getD i 0)&& !r.GC.contains ((ZK (lp c.y)).getD i 0))=_
 rw[(Gd (wT c.y) hi).2.1,(Gd (wT c.y) hi).2.2,nN,nN,o.FC,o.GC]
 unfold tI
 have c1:(W.TA.filter λn=>decide (0<n)).contains ((i:Int)-GB (lp c.y) (BE (lp c.y) i)+1)=W.TA.contains ((i:Int)-GB (lp c.y) (BE (lp c.y) i)+1):=by
  rw[Bool.eq_iff_iff];simp only[List.contains_iff_mem,List.mem_filter,decide_eq_true_eq];exact⟨λh=>h.1,λh=>⟨h,O⟩⟩
 have c2:(W.TA.filter λn=>decide (n<0)).contains ((i:Int)-GB (lp c.y) (BE (lp c.y) i+1))=W.TA.contains ((i:Int)-GB (lp c.y) (BE (lp c.y) i)+1- (GB (lp c.y) (BE (lp c.y) i+1)-GB (lp c.y) (BE (lp c.y) i))-1):=by
  rw[show(i:Int)-GB (lp c.y) (BE (lp c.y) i)+1- (GB (lp c.y) (BE (lp c.y) i+1)-GB (lp c.y) (BE (lp c.y) i))-1=(i:Int)-GB (lp c.y) (BE (lp c.y) i+1)by omega]
  rw[Bool.eq_iff_iff];simp only[List.contains_iff_mem,List.mem_filter,decide_eq_true_eq];exact⟨λh=>h.1,λh=>⟨h,O⟩⟩
 have c3:(!(W.TA.filter λn=>decide (0<n)).isEmpty|| !(W.TA.filter λn=>decide (n<0)).isEmpty)= !W.TA.isEmpty:=by
  cases h:W.TA with
  |nil=>rfl
  |cons a l=>
   have ha:=k.md a (by rw[h];exact List.mem_cons_self)
   rcases(by omega:0<a\/a<0)with D|D
   ·simp[List.filter_cons,D]
   ·simp[List.filter_cons,D]
 rw[c1,c2,c3]
 cases W.TA.isEmpty<;>simp
theorem H3:((r.PF.length:Int) !=0&&(decide ((i:Int)<(QA r c).yl)&& !r.PF.contains ((i:Int)+1)&& !r.PF.contains (-(QA r c).yl+(i:Int))||decide ((i:Int)>=(QA r c).yl)&& !r.PF.contains ((i:Int)+1- (QA r c).yl)&& !r.PF.contains (-(QA r c).dG+(i:Int)- (QA r c).yl)))= !(W.LB.isEmpty||tI W.LB (before c.y+i-before (oA (before c.y+i))+1) (oM (oA (before c.y+i)))):=by
 rw[(vT hi).1,nN,o.PF]
 show(!W.LB.isEmpty&&(decide ((i:Int)<365+lp c.y)&& !W.LB.contains ((i:Int)+1)&& !W.LB.contains (-(365+lp c.y)+(i:Int))||decide ((i:Int)>=365+lp c.y)&&_&&_))=_
 rw[decide_eq_true hi,decide_eq_false (show¬(i:Int)>=365+lp c.y by omega)]
 unfold tI oM
 rw[show before c.y+(i:Int)-before c.y+1=i+1 by omega,show(i:Int)+1- (365+lp c.y)-1= -(365+lp c.y)+i by omega]
 cases W.LB.isEmpty<;>simp
theorem I3 (k:wM W):((r.uB.length:Int) !=0&&(QA r c).wn.getD i 0==0)= !(W.sA.isEmpty||tI W.sA (sA (before c.y+i) W.HB) (qM (nE (before c.y+i) W.HB) W.HB)):=by
 rw[nN,o.uB]
 show(!W.sA.isEmpty&&(eG r c.y).getD i 0==0)=_
 unfold eG
 rw[o.uB,o.wk]
 by_cases h0:W.sA=[]
 ·simp[h0]
 ·have hl:¬W.sA.length=0:=λh=>h0 (List.length_eq_zero_iff.1 h)
  rw[if_neg hl]
  unfold LL
  rw[Hd _ O]
  have hw:=S2 k.wk k.wn hi h0
  have he:W.sA.isEmpty=false:=by simpa using h0
  rw[he]
  by_cases hm:i∈HW c.y W.HB W.sA
  ·rw[if_pos hm,hw.1 hm];rfl
  ·rw[if_neg hm]
   have:tI W.sA (sA (before c.y+i) W.HB) (qM (nE (before c.y+i) W.HB) W.HB)=false:=by
    rw[<-Bool.not_eq_true];exactλh=>hm (hw.2 h)
   rw[this];rfl
theorem J3 (hy:1<=c.y/\c.y<=100000):80<=wC c.y-before c.y:=by
 have D:=uV (y:=c.y) O
 have h2:=tB c.y
 have h3:59<=GB (lp c.y) 3:=by have:=wT c.y;rcases this with h|h<;>rw[h]<;>decide
 unfold wC NA;omega
theorem L3 (k:wM W) (hy:1<=c.y/\c.y<=100000) (hE:oA (wC c.y)=c.y):((r.be.length:Int) !=0&&(QA r c).ea.getD i 0==0)= !(W.NB.isEmpty||W.NB.contains (before c.y+i-wC (oA (before c.y+i)))):=by
 rw[(vT hi).1,nN,o.be]
 show(!W.NB.isEmpty&&(nF r c.y []).getD i 0==0)=_
 unfold nF wJ OC
 rw[o.be]
 have LFA:=J3 o hi hy
 have hx:idxOf (wC c.y)=wC c.y-before c.y:=by unfold idxOf;rw[hE]
 by_cases h0:W.NB=[]
 ·simp[h0]
 ·have hl:¬W.NB.length=0:=λh=>h0 (List.length_eq_zero_iff.1 h)
  rw[if_neg hl,Hd _ O]
  have he:W.NB.isEmpty=false:=by simpa using h0
  rw[he]
  by_cases hm:i∈W.NB.map λo=>(idxOf (wC c.y)+o).toNat
  ·rw[if_pos hm]
   obtain⟨u,hu,e⟩:=List.mem_map.1 hm
   have:=k.be u hu
   have:before c.y+(i:Int)-wC c.y=u:=O
   rw[this];simp[hu]
  ·rw[if_neg hm]
   have:W.NB.contains (before c.y+i-wC c.y)=false:=by
    rw[<-Bool.not_eq_true,List.contains_iff_mem]
    exactλh=>hm (List.mem_map.2 ⟨_,h,O⟩)
   rw[this];rfl
end
theorem M3 {W:MA} (k:wM W) (hf:¬W.BA>1) (hn:∀p∈W.FA,p.2≠0):(W.FA.filter λd=>d.2==0||decide (W.BA>1))=[]/\(W.FA.filter λd=> !(d.2==0||decide (W.BA>1)))=W.FA:=by
 have e:∀p∈W.FA,(p.2==0||decide (W.BA>1))=false:=λp hp=>by
  rw[decide_eq_false hf,Bool.or_false,beq_eq_false_iff_ne];exact hn p hp
 exact⟨List.filter_eq_nil_iff.2 λp hp=>by rw[e p hp];decide,List.filter_eq_self.2 λp hp=>by rw[e p hp];rfl⟩
theorem N3 {W:MA} (hn:∀p∈W.FA,p.2=0):(W.FA.filter λd=>d.2==0||decide (W.BA>1))=W.FA/\(W.FA.filter λd=> !(d.2==0||decide (W.BA>1)))=[]:=by
 have e:∀p∈W.FA,(p.2==0||decide (W.BA>1))=true:=λp hp=>by rw[hn p hp];rfl
 exact⟨List.filter_eq_self.2 λp hp=>e p hp,List.filter_eq_nil_iff.2 λp hp=>by rw[e p hp];decide⟩
theorem Hm {r:RR} (y m:Int) (h:r.vA=[]):BG r y m=[]:=by unfold BG;rw[h];rfl
theorem Im {r:RR} {W:MA} {c:CR} {i:Nat} (o:Of r W) (hi:(i:Int)<385- (before c.y%7)) (hn:∀p∈W.FA,p.2=0) (n y m d:Int) (hN:n=before c.y+i):
  (((r.VC.length:Int) !=0&& !r.VC.contains ((QA r c).XC.getD ((QA r c).yw+i) 0))||(((QA r c).nw.length:Int) !=0&&(QA r c).nw.getD i 0==0))= !(W.FA.isEmpty||W.FA.any (zF W n y m d)):=by
 obtain⟨p1,p2⟩:=N3 hn
 have xG:(QA r c).nw=[]:=Hm _ _ (by rw[o.vA,p2])
 have Z:r.VC=W.FA.map (·.1):=by rw[o.VC,p1]
 rw[xG,nN,Z]
 show(!(W.FA.map (·.1)).isEmpty&& !(W.FA.map (·.1)).contains ((JF 55).getD ((before c.y%7).toNat+i) 0)||_)=_
 rw[zc O,show(((before c.y%7).toNat+i:Nat):Int)%7=n%7 by omega]
 have ha:W.FA.any (zF W n y m d)=(W.FA.map (·.1)).contains (n%7):=by
  rw[Bool.eq_iff_iff,List.any_eq_true,List.contains_iff_mem,List.mem_map]
  constructor
  ·rintro⟨p,hp,h⟩
   unfold zF at h
   rw[Bool.and_eq_true,beq_iff_eq]at h
   exact⟨p,hp,h.1.symm⟩
  ·rintro⟨p,hp,h⟩
   refine⟨p,hp,?_⟩
   unfold zF
   rw[h,hn p hp];simp
 rw[ha]
 have KW:(W.FA.map (·.1)).isEmpty=W.FA.isEmpty:=by cases W.FA<;>rfl
 rw[KW]
 cases W.FA.isEmpty<;>simp
theorem O3 {r:RR} {W:MA} {c:CR} {i:Nat} (o:Of r W) (k:wM W) (hi:(i:Int)<365+lp c.y) (hf:¬W.BA>1) (hn:∀p∈W.FA,p.2≠0) (qH:W.BA=1->BE (lp c.y) i=c.m) (xM:W.BA=0->W.VA≠[]->BE (lp c.y) i∈W.VA):
  (((r.VC.length:Int) !=0&& !r.VC.contains ((QA r c).XC.getD ((QA r c).yw+i) 0))||(((QA r c).nw.length:Int) !=0&&(QA r c).nw.getD i 0==0))= !(W.FA.isEmpty||W.FA.any (zF W (before c.y+i) (oA (before c.y+i)) (KB (before c.y+i)) (JC (before c.y+i)))):=by
 obtain⟨p1,p2⟩:=M3 k hf hn
 have Z:r.VC=[]:=by rw[o.VC,p1];rfl
 have cV:r.vA=W.FA:=by rw[o.vA,p2]
 have hl:=tB c.y
 have KG:=k.BA
 obtain⟨e1,e2,e3⟩:=vT hi
 have DG:=OI (lp c.y) i
 have hs:=jT hl (k:=i) ⟨O,hi⟩
 rw[Z,nN,nN]
 show(false|| !(BG r c.y c.m).isEmpty&&(BG r c.y c.m).getD i 0==0)=_
 rw[Bool.false_or]
 by_cases h0:W.FA=[]
 ·rw[Hm _ _ (by rw[cV,h0]),h0];rfl
 ·have HE:0<W.FA.length:=List.length_pos_iff.2 h0
  have LC:(BG r c.y c.m).isEmpty=false:=by
   unfold BG;rw[cV,if_pos HE]
   have:=aK (nP (before c.y%7).toNat (SI r.BA r.bm (lp c.y) c.m) W.FA) (SJ (lp c.y))
   have h2:(SJ (lp c.y)).length=(365+lp c.y).toNat:=by simp[SJ]
   cases h:marks (SJ (lp c.y)) (nP (before c.y%7).toNat (SI r.BA r.bm (lp c.y) c.m) W.FA)with
   |nil=>rw[h]at this;simp at this;omega
   |cons=>rfl
  rw[LC]
  have he:W.FA.isEmpty=false:=by simpa using h0
  rw[he]
  unfold BG SJ
  rw[cV,if_pos HE,Hd _ O]
  have mC:∀g∈SI r.BA r.bm (lp c.y) c.m,0<=g.1:=by
   unfold SI
   intro g hg
   split at hg
   ·split at hg
    ·rw[List.mem_singleton]at hg;subst hg;exact Int.le_refl 0
    ·obtain⟨m,hm,rfl⟩:=List.mem_map.1 hg
     exact(bG hl).1
   ·split at hg
    ·rw[List.mem_singleton]at hg;subst hg;exact(bG hl).1
    ·simp at hg
  have LI:=W2 (yw:=(before c.y%7).toNat) (rg:=SI r.BA r.bm (lp c.y) c.m) (l:=W.FA) mC (λp hp=>⟨(k.FA p hp).1,(k.FA p hp).2,hn p hp⟩) (i:=i)
  have Jm:(i∈nP (before c.y%7).toNat (SI r.BA r.bm (lp c.y) c.m) W.FA)↔W.FA.any (zF W (before c.y+i) (oA (before c.y+i)) (KB (before c.y+i)) (JC (before c.y+i)))=true:=by
   rw[LI,List.any_eq_true,e1,e2,e3]
   have ht:(((before c.y%7).toNat:Nat):Int)=before c.y%7:=O
   rcases(by omega:W.BA=0\/W.BA=1)with hq|hq
   ·by_cases vI:W.VA=[]
    ·have hr:SI r.BA r.bm (lp c.y) c.m=[(0,365+lp c.y)]:=by unfold SI;rw[o.BA,o.bm,if_pos hq,if_pos vI]
     rw[hr]
     constructor
     ·rintro⟨g,hg,D,p,hp,h2,h3⟩
      rw[List.mem_singleton]at hg;subst hg
      refine⟨p,hp,?_⟩
      unfold zF oM
      rw[if_pos ⟨hq,vI⟩,Bool.and_eq_true,Bool.or_eq_true,Bool.or_eq_true,beq_iff_eq,beq_iff_eq,beq_iff_eq,beq_iff_eq]
      dsimp only at h2 h3
      exact⟨O, .inr O⟩
     ·rintro⟨p,hp,h⟩
      have jK:=hn p hp
      unfold zF oM at h
      rw[if_pos ⟨hq,vI⟩,Bool.and_eq_true,Bool.or_eq_true,Bool.or_eq_true,beq_iff_eq,beq_iff_eq,beq_iff_eq,beq_iff_eq]at h
      exact⟨_,List.mem_singleton.2 rfl,⟨by show(0:Int)<=i;omega,hi⟩,p,hp,by unfold ZR;dsimp only;omega⟩
    ·have hr:SI r.BA r.bm (lp c.y) c.m=W.VA.map λm=>(GB (lp c.y) m,GB (lp c.y) (m+1)):=by unfold SI;rw[o.BA,o.bm,if_pos hq,if_neg vI]
     have NE:=xM hq vI
     rw[hr]
     constructor
     ·rintro⟨g,hg,D,p,hp,h2,h3⟩
      obtain⟨m,hm,rfl⟩:=List.mem_map.1 hg
      dsimp only at D h2 h3
      have yM:=rV hl (k:=i) ⟨O,hi⟩ D.1 D.2
      refine⟨p,hp,?_⟩
      unfold zF
      rw[if_neg (λh=>vI h.2),yM,JW (k.VA m hm),Bool.and_eq_true,Bool.or_eq_true,Bool.or_eq_true,beq_iff_eq,beq_iff_eq,beq_iff_eq,beq_iff_eq]
      exact⟨O, .inr O⟩
     ·rintro⟨p,hp,h⟩
      have jK:=hn p hp
      unfold zF at h
      rw[if_neg (λh=>vI h.2),JW DG,Bool.and_eq_true,Bool.or_eq_true,Bool.or_eq_true,beq_iff_eq,beq_iff_eq,beq_iff_eq,beq_iff_eq]at h
      exact⟨_,List.mem_map.2 ⟨_,NE,rfl⟩,⟨hs.1,hs.2⟩,p,hp,by unfold ZR;dsimp only;omega⟩
   ·have Nd:=qH hq
    have hr:SI r.BA r.bm (lp c.y) c.m=[(GB (lp c.y) c.m,GB (lp c.y) (c.m+1))]:=by unfold SI;rw[o.BA,o.bm,if_neg O,if_pos hq]
    rw[hr]
    constructor
    ·rintro⟨g,hg,D,p,hp,h2,h3⟩
     rw[List.mem_singleton]at hg;subst hg
     dsimp only at D h2 h3
     refine⟨p,hp,?_⟩
     unfold zF
     rw[if_neg (λh=>by omega),JW DG,Nd,Bool.and_eq_true,Bool.or_eq_true,Bool.or_eq_true,beq_iff_eq,beq_iff_eq,beq_iff_eq,beq_iff_eq]
     exact⟨O, .inr O⟩
    ·rintro⟨p,hp,h⟩
     have jK:=hn p hp
     unfold zF at h
     rw[if_neg (λh=>by omega),JW DG,Nd,Bool.and_eq_true,Bool.or_eq_true,Bool.or_eq_true,beq_iff_eq,beq_iff_eq,beq_iff_eq,beq_iff_eq]at h
     rw[Nd]at hs
     exact⟨_,List.mem_singleton.2 rfl,⟨hs.1,hs.2⟩,p,hp,by unfold ZR;dsimp only;omega⟩
  by_cases NE:i∈nP (before c.y%7).toNat (SI r.BA r.bm (lp c.y) c.m) W.FA
  ·rw[if_pos NE,Jm.1 NE];rfl
  ·rw[if_neg NE]
   have:W.FA.any (zF W (before c.y+i) (oA (before c.y+i)) (KB (before c.y+i)) (JC (before c.y+i)))=false:=by
    rw[<-Bool.not_eq_true];exactλh=>NE (Jm.2 h)
   rw[this];rfl
theorem Km {r:RR} {W:MA} {c:CR} {i:Nat} (o:Of r W) (k:wM W) (hi:(i:Int)<365+lp c.y) (hy:1<=c.y/\c.y<=100000) (hE:oA (wC c.y)=c.y) (qH:W.BA=1->BE (lp c.y) i=c.m):jF r (QA r c) i= !stays W (before c.y+i):=by
 have D:=F3 (c:=c) o hi
 have h2:=I3 (c:=c) o hi k
 have h4:=L3 (c:=c) o hi k hy hE
 have h5:=G3 (c:=c) o hi k
 have h6:=H3 (c:=c) o hi
 have h3:CC W.VA (KB (before c.y+i))=true->(((r.VC.length:Int) !=0&& !r.VC.contains ((QA r c).XC.getD ((QA r c).yw+i) 0))||(((QA r c).nw.length:Int) !=0&&(QA r c).nw.getD i 0==0))= !(W.FA.isEmpty||W.FA.any (zF W (before c.y+i) (oA (before c.y+i)) (KB (before c.y+i)) (JC (before c.y+i)))):=λha=>by
  by_cases hp:∀p∈W.FA,p.2=0
  ·exact Im o (by have:=tB c.y;omega) hp _ _ _ _ rfl
  ·have hn:∀p∈W.FA,p.2≠0:=by rcases k.Md with h|h;exact absurd h hp;exact h
   have hf:¬W.BA>1:=λh=>hp (k.Gm h)
   refine O3 o k hi hf hn qH (λ_ LC=> ?_)
   unfold CC at ha
   rw[Bool.or_eq_true,List.contains_iff_mem,(vT hi).2.1]at ha
   rcases ha with ha|ha
   ·exact absurd (by simpa using ha) LC
   ·exact ha
 unfold jF stays vV
 rw[D,h2,h4,h5,h6]
 cases hA:CC W.VA (KB (before c.y+i))with
 |false=>simp
 |true=>
  have h3:=h3 hA
  rw[Bool.or_assoc (!true||_),h3]
  generalize tI W.TA _ _=b1
  generalize (W.LB.isEmpty||_)=b2
  generalize (W.sA.isEmpty||_)=b3
  generalize (W.NB.isEmpty||_)=b4
  generalize (W.FA.isEmpty||_)=b5
  revert b1 b2 b3 b4 b5;decide
theorem P3 {r:RR} {W:MA} {c:CR} {i:Nat} (o:Of r W) (k:wM W) (hf:W.BA=2) (wP:365+lp c.y<=(i:Int)) (hi:(i:Int)<372+lp c.y):jF r (QA r c) i= !stays W (before c.y+i):=by
 obtain⟨w1,w2,w3,w4⟩:=k.nT hf
 have hn:=k.Gm O
 have h3:=Im (c:=c) (i:=i) o (by have:=tB c.y;omega) hn (before c.y+i) (oA (before c.y+i)) (KB (before c.y+i)) (JC (before c.y+i)) rfl
 have hy:oA (before c.y+i)=c.y+1:=MR (by rw[NG];omega) (by rw[NG (c.y+1),NG];have:=tB (c.y+1);omega)
 have jE:idxOf (before c.y+i)=i- (365+lp c.y):=by unfold idxOf;rw[hy,NG];omega
 have vI:KB (before c.y+i)=1:=by
  unfold KB;rw[hy,jE]
  exact rV (tB _) (by have:=tB (c.y+1);omega) (by rw[show GB (lp (c.y+1)) 1=0 by simp[GB]];omega) (by rw[show GB (lp (c.y+1)) (1+1)=31 by simp[GB]];omega)
 have yM:(QA r c).mm.getD i 0=1:=O2 (wT c.y) wP hi
 have D:((r.bm.length:Int) !=0&& !r.bm.contains ((QA r c).mm.getD i 0))= !CC W.VA (KB (before c.y+i)):=by
  rw[yM,vI,nN,o.bm];unfold CC;cases W.VA.isEmpty<;>simp
 unfold jF stays vV
 rw[D,Bool.or_assoc (_||((r.uB.length:Int) !=0&&_)),h3,o.uB,o.be,o.FC,o.GC,o.PF,w1,w2,w3,w4]
 unfold tI
 simp only[List.filter_nil,List.length_nil,List.isEmpty_nil,Bool.true_or,Bool.and_true]
 generalize CC W.VA _=b1
 generalize (W.FA.isEmpty||_)=b5
 have z:(((0:Nat):Int) !=0)=false:=rfl
 simp only[z,Bool.false_and,Bool.or_false]
 revert b1 b5;decide
def DI (W:MA) (T:List Int) (n:Int):List Int:=if stays W n then T.map (λt=>n*86400+t)else[]
def pF (W:MA) (T:List Int) (f:Int) (len:Nat):List Int:=(List.range len).flatMap λ(j:Nat)=>DI W T (f+j)
theorem xT {PB G:Type} {f g:PB->List G}:∀{l:List PB},(∀a∈l,f a=g a)->l.flatMap f=l.flatMap g
 |[],_=>rfl
 |a::l,h=>by rw[List.flatMap_cons,List.flatMap_cons,h a List.mem_cons_self,xT λb Z=>h b (List.mem_cons_of_mem _ Z)]
theorem Lm {r:RR} {W:MA} {c:CR} (ha:(YB r c).1<=(YB r c).2) (hk:∀i,(YB r c).1<=i->i<(YB r c).2->jF r (QA r c) i= !stays W (before c.y+i)):
  yG (QA r (rD r c)) (QA r (rD r c)).ds=pF W c.ts (before c.y+(YB r c).1) ((YB r c).2- (YB r c).1):=by
 have e1:(QA r (rD r c)).ds=(SD (YB r c).1 (YB r c).2).map λp=>(p.1,!jF r (QA r c) p.1.toNat):=by
  show RG r (QA r (oF r c)) (SD (YB r c).1 (YB r c).2) (SD (YB r c).1 (YB r c).2).length=_
  unfold RG
  rw[List.take_length,List.drop_length,List.append_nil];rfl
 rw[e1]
 unfold yG pF SD
 rw[List.map_map,List.flatMap_map,List.range'_eq_map_range,List.flatMap_map]
 refine xT λj hj=> ?_
 have hj:=List.mem_range.1 hj
 have Z:=hk ((YB r c).1+j) O O
 show(if !jF r (QA r c) ((((YB r c).1+j:Nat):Int)).toNat then vJ (QA r (rD r c)) (((YB r c).1+j:Nat):Int)else[])=_
 rw[Int.toNat_natCast,Z,Bool.not_not]
 unfold DI
 rw[show before c.y+(((YB r c).1+j:Nat):Int)=before c.y+((YB r c).1:Int)+(j:Int)by omega]
 split
 ·unfold vJ
  refine List.map_congr_left λt _=> ?_
  show before c.y*86400+(((YB r c).1+j:Nat):Int)*86400+t=_
  omega
 ·rfl
structure LW (T:List Int):Prop where
 kY:T.Pairwise (·<·)
 range:∀t∈T,0<=t/\t<86400
theorem Od {W:MA} {T:List Int} (hT:LW T) {f:Int} {len:Nat} {t:Int}:t∈pF W T f len->f*86400<=t/\t<(f+len)*86400:=by
 unfold pF
 rw[List.mem_flatMap]
 rintro⟨j,hj,h⟩
 have hj:=List.mem_range.1 hj
 unfold DI at h
 split at h
 ·obtain⟨u,hu,rfl⟩:=List.mem_map.1 h
  have:=hT.range u hu
  omega
 ·simp at h
theorem Pd (W:MA) (T:List Int) (f:Int) (len:Nat):pF W T f (len+1)=pF W T f len++DI W T (f+len):=by
 unfold pF;rw[List.range_succ,List.flatMap_append];simp
theorem Mm {W:MA} {T:List Int} (hT:LW T) (f:Int):∀len:Nat,(pF W T f len).Pairwise (·<·)
 |0=>by simp[pF]
 |len+1=>by
  rw[Pd]
  refine List.pairwise_append.2 ⟨Mm hT f len,?_,?_⟩
  ·unfold DI;split
   ·rw[List.pairwise_map]
    exact hT.kY.imp λh=>by omega
   ·exact List.Pairwise.nil
  ·intro a ha b Z
   have:=Od hT ha
   unfold DI at Z
   split at Z
   ·obtain⟨u,hu,rfl⟩:=List.mem_map.1 Z
    have:=hT.range u hu
    omega
   ·simp at Z
theorem Om (T DC:List Int) (g:Int->Int->Int):(DC.flatMap λd=>T.map (g d)).length=DC.length*T.length:=by
 induction DC with
 |nil=>simp
 |cons a DC ih=>rw[List.flatMap_cons,List.length_append,ih,List.length_map,List.length_cons,Nat.succ_mul];omega
theorem Pm (T:List Int) (g:Int->Int->Int):∀(DC:List Int) (a b:Nat),a<DC.length->b<T.length->(DC.flatMap λd=>T.map (g d))[a*T.length+b]? =some (g (DC.getD a 0) (T.getD b 0))
 |[],a,b,h,_=>by simp at h
 |d::DC,0,b,_,Z=>by
  rw[List.flatMap_cons,Nat.zero_mul,Nat.zero_add,List.getElem?_append_left (by simpa using Z),List.getElem?_map,List.getElem?_eq_getElem Z]
  simp[List.getD_eq_getElem?_getD,List.getElem?_eq_getElem Z]
 |d::DC,a+1,b,h,Z=>by
  have:=Pm T g DC a b (by simpa using h) Z
  rw[List.flatMap_cons,List.getElem?_append_right (by rw[List.length_map,Nat.succ_mul];omega),List.length_map,Nat.succ_mul,show a*T.length+T.length+b-T.length=a*T.length+b by omega,this]
  simp
theorem Qm (x:IT):yG x x.ds=(QF x.ds).flatMap λd=>x.ts.map λt=>x.fy+d*86400+t:=by
 unfold yG QF
 induction x.ds with
 |nil=>rfl
 |cons p l ih=>
  rw[List.flatMap_cons,ih]
  cases h:p.2 with
  |false=>simp[List.filter_cons,h]
  |true=>simp[List.filter_cons,h,vJ]
def BZ (L:List Int) (pos:Int):Option Int:=if pos<0 then(if 0<=L.length+pos then L[(L.length+pos).toNat]? else none)else L[(pos-1).toNat]?
theorem Rm (x:IT) (h:x.ts≠[]) {pos:Int} (hp:pos≠0):KL x (QF x.ds) pos=BZ (yG x x.ds) pos:=by
 obtain⟨n,hn⟩:∃n,n=x.ts.length:=⟨_,rfl⟩
 obtain⟨m,hm⟩:∃m,m=(QF x.ds).length:=⟨_,rfl⟩
 have HF:0<n:=by rw[hn];exact List.length_pos_iff.2 h
 have hL:(yG x x.ds).length=m*n:=by rw[Qm,Om x.ts (QF x.ds) λd t=>x.fy+d*86400+t,hm,hn]
 have oV:∀a b:Nat,a<m->b<n->(yG x x.ds)[a*n+b]? =some (x.fy+(QF x.ds).getD a 0*86400+x.ts.getD b 0):=λa b D h2=>by
  rw[Qm,hn]
  exact Pm x.ts (λd t=>x.fy+d*86400+t) (QF x.ds) a b O O
 unfold KL BZ
 dsimp only
 rw[hL,<-hm,<-hn]
 have CZ:(0:Int)<n:=O
 by_cases uJ:pos<0
 ·rw[if_pos uJ,if_pos uJ]
  have e1:=Int.emod_add_mul_ediv pos n
  have e2:=Int.emod_nonneg pos (show(n:Int)≠0 by omega)
  have e3:=Int.emod_lt_of_pos pos CZ
  have e4:pos/(n:Int)<0:=Int.ediv_neg_of_neg_of_pos uJ CZ
  rw[if_pos e4]
  obtain⟨q,hq⟩:∃q,q=pos/(n:Int):=⟨_,rfl⟩
  obtain⟨s,hs⟩:∃s,s=pos%(n:Int):=⟨_,rfl⟩
  rw[<-hq,<-hs]at e1
  rw[<-hq]at e4
  rw[<-hs]at e2 e3
  rw[<-hq,<-hs]
  have Q3:((m*n:Nat):Int)+pos=(q+m)*n+s:=by rw[Int.natCast_mul,Int.add_mul,Int.mul_comm q];omega
  rw[Q3]
  by_cases IF:0<=q+m
  ·have Sm:0<=(q+m)*(n:Int):=Int.mul_nonneg IF O
   rw[if_pos ⟨IF,O⟩,if_pos O]
   have Qd:((q+m).toNat:Int)=q+m:=Int.toNat_of_nonneg IF
   have:((q+m)*(n:Int)+s).toNat=(q+m).toNat*n+s.toNat:=by
    have:(((q+m).toNat*n:Nat):Int)=(q+m)*n:=by rw[Int.natCast_mul,Qd]
    omega
   rw[this,oV _ _ O O]
  ·rw[if_neg (λh=>IF h.1)]
   have Sm:(q+m+1)*(n:Int)<=0:=Int.mul_nonpos_of_nonpos_of_nonneg O O
   rw[Int.add_mul,Int.one_mul]at Sm
   rw[if_neg O]
 ·rw[if_neg uJ,if_neg uJ]
  have e1:=Int.emod_add_mul_ediv (pos-1) n
  have e2:=Int.emod_nonneg (pos-1) (show(n:Int)≠0 by omega)
  have e3:=Int.emod_lt_of_pos (pos-1) CZ
  have e4:0<=(pos-1)/(n:Int):=Int.ediv_nonneg O O
  rw[if_neg (show¬(pos-1)/(n:Int)<0 by omega)]
  obtain⟨q,hq⟩:∃q,q=(pos-1)/(n:Int):=⟨_,rfl⟩
  obtain⟨s,hs⟩:∃s,s=(pos-1)%(n:Int):=⟨_,rfl⟩
  rw[<-hq,<-hs]at e1
  rw[<-hq]at e4
  rw[<-hs]at e2 e3
  rw[<-hq,<-hs]
  have Qd:(q.toNat:Int)=q:=Int.toNat_of_nonneg e4
  have tL:(pos-1).toNat=q.toNat*n+s.toNat:=by
   have:((q.toNat*n:Nat):Int)=q*n:=by rw[Int.natCast_mul,Qd]
   rw[Int.mul_comm]at e1
   omega
  rw[tL]
  by_cases fA:q<m
  ·rw[if_pos ⟨e4,fA⟩,oV _ _ O O]
  ·rw[if_neg (λh=>fA h.2),List.getElem?_eq_none]
   rw[hL]
   have:m*n<=q.toNat*n:=Nat.mul_le_mul_right n O
   omega
theorem S3 {x:IT} {sp:List Int} {u:Int}:u∈YF x sp↔∃p∈sp,KL x (QF x.ds) p=some u:=by
 have TC:∀(sp l:List Int),u∈sp.foldl (λl p=>fN l (KL x (QF x.ds) p)) l↔u∈l\/∃p∈sp,KL x (QF x.ds) p=some u:=by
  intro sp
  induction sp with
  |nil=>intro l;simp
  |cons p sp ih=>
   intro l
   rw[List.foldl_cons,ih]
   have:u∈fN l (KL x (QF x.ds) p)↔u∈l\/KL x (QF x.ds) p=some u:=by
    unfold fN
    cases h:KL x (QF x.ds) p with
    |none=>simp
    |some v=>
     dsimp only
     split
     ·rename_i hc
      rw[List.contains_iff_mem]at hc
      constructor
      ·exact .inl
      ·rintro(h|h)
       ·exact h
       ·cases h;exact hc
     ·rw[List.mem_append,List.mem_singleton]
      constructor
      ·rintro(h|h)
       ·exact .inl h
       ·exact .inr (by rw[h])
      ·rintro(h|h)
       ·exact .inl h
       ·cases h;exact .inr rfl
   rw[this]
   constructor
   ·rintro((h|h)|⟨q,hq,h⟩)
    ·exact .inl h
    ·exact .inr ⟨p,List.mem_cons_self,h⟩
    ·exact .inr ⟨q,List.mem_cons_of_mem _ hq,h⟩
   ·rintro(h|⟨q,hq,h⟩)
    ·exact .inl (.inl h)
    ·rcases List.mem_cons.1 hq with rfl|hq
     ·exact .inl (.inr h)
     ·exact .inr ⟨q,hq,h⟩
 unfold YF;rw[TC];simp
theorem T3 (x:IT) (sp:List Int):(YF x sp).Nodup:=by
 have TC:∀(sp l:List Int),l.Nodup->(sp.foldl (λl p=>fN l (KL x (QF x.ds) p)) l).Nodup:=by
  intro sp
  induction sp with
  |nil=>intro l h;exact h
  |cons p sp ih=>
   intro l h
   rw[List.foldl_cons]
   refine ih _ ?_
   unfold fN
   split
   ·split
    ·exact h
    ·rename_i u _ hc
     rw[List.contains_iff_mem]at hc
     rw[List.nodup_append]
     exact⟨h,by simp,λa ha b Z=>by rw[List.mem_singleton]at Z;subst Z;exactλe=>hc (e▸ha)⟩
   ·exact h
 exact TC sp [] List.nodup_nil
theorem U3 {L ps:List Int} (V3:ps≠[]) (yT:∀p∈ps,p≠0) {u:Int}:u∈gE L ps↔∃p∈ps,BZ L p=some u:=by
 unfold gE QJ BZ
 rw[if_neg V3]
 simp only[List.mem_map,List.mem_filter,List.mem_range,Bool.or_eq_true,List.contains_iff_mem]
 constructor
 ·rintro⟨j,⟨hj,h⟩,rfl⟩
  have hg:L[j]? =some (L.getD j 0):=by rw[List.getD_eq_getElem?_getD,List.getElem?_eq_getElem hj];rfl
  rcases h with h|h
  ·refine⟨_,h,?_⟩
   rw[if_neg O,show((j:Int)+1-1).toNat=j by omega,hg]
  ·refine⟨_,h,?_⟩
   rw[if_pos O,if_pos O,show((L.length:Int)+((j:Int)-L.length)).toNat=j by omega,hg]
 ·rintro⟨p,hp,h⟩
  have oN:=yT p hp
  by_cases uJ:p<0
  ·rw[if_pos uJ]at h
   split at h
   ·rename_i IF
    obtain⟨fA,e⟩:=List.getElem?_eq_some_iff.1 h
    exact⟨_,⟨fA, .inr (by rwa [show(((L.length:Int)+p).toNat:Int)-L.length=p by omega])⟩,by rw[List.getD_eq_getElem?_getD,h];rfl⟩
   ·cases h
  ·rw[if_neg uJ]at h
   obtain⟨fA,e⟩:=List.getElem?_eq_some_iff.1 h
   exact⟨_,⟨fA, .inl (by rwa [show((p-1).toNat:Int)+1=p by omega])⟩,by rw[List.getD_eq_getElem?_getD,h];rfl⟩
theorem W3 {L ps:List Int} (h:L.Pairwise (·<·)):(gE L ps).Pairwise (·<·):=by
 unfold gE
 split
 ·exact h
 ·unfold QJ
  rw[List.pairwise_map]
  have D:((List.range L.length).filter λ(j:Nat)=>ps.contains ((j:Int)+1)||ps.contains ((j:Int)-L.length)).Pairwise (λa b=>a<b/\b<L.length):=by
   refine List.Pairwise.filter _ ?_
   refine List.Pairwise.imp_of_mem ?_ (List.pairwise_lt_range (n:=L.length))
   intro a b ha Z xD
   exact⟨xD,List.mem_range.1 Z⟩
  refine D.imp λ{a b} xD=> ?_
  have:=List.pairwise_iff_getElem.1 h a b O xD.2 xD.1
  rw[List.getD_eq_getElem?_getD,List.getElem?_eq_getElem O,List.getD_eq_getElem?_getD,List.getElem?_eq_getElem xD.2]
  exact this
theorem X3 {x:IT} {sp L:List Int} (sD:x.ts≠[]) (hL:yG x x.ds=L) (hs:L.Pairwise (·<·)) (hp:∀p∈sp,p≠0):TH sp x=gE L sp:=by
 unfold TH
 by_cases h:sp=[]
 ·rw[if_neg (λh'=>h'.1 h),hL];unfold gE;rw[if_pos h]
 ·rw[if_pos ⟨h,sD⟩]
  have hm:∀u,u∈YF x sp↔u∈gE L sp:=λu=>by
   rw[S3,U3 h hp]
   constructor
   ·rintro⟨p,D,h2⟩;exact⟨p,D,by rw[<-hL,<-Rm x sD (hp p D)];exact h2⟩
   ·rintro⟨p,D,h2⟩;exact⟨p,D,by rw[Rm x sD (hp p D),hL];exact h2⟩
  have uG:=W3 (ps:=sp) hs
  have bR:(gE L sp).Nodup:=uG.imp λh=>by omega
  have yV:(YF x sp).Perm (gE L sp):=(List.perm_ext_iff_of_nodup (T3 x sp) bR).2 hm
  refine jY ((List.mergeSort_perm _ _).trans yV) ?_ (uG.imp λh=>by omega)
  have:=List.pairwise_mergeSort (le:=λa b:Int=>decide (a<=b)) (λa b c D h2=>by simp at*;omega) (λa b=>by simp;omega) (YF x sp)
  exact this.imp λh=>by simpa using h
def rH (XA dt:Int) (kB:Nat):List Int->List Int->List Int×Bool
 |[],l=>(l,false)
 |t::r,l=>if XA<t then(l,true)else rH XA dt kB r (if dt<=t/\l.length<kB then l++[t]else l)
def VI (XA dt:Int) (inst:Nat->List Int×Bool) (late:Nat->Bool) (kB:Nat):Nat->Nat->List Int->List Int×Bool
 |0,_,l=>if kB<=l.length then(l,false)else(l,true)
 |f+1,k,l=>if kB<=l.length then(l,false)else if 2000<(inst k).1.length then(l,true)else if(inst k).2=false then(l,false)
  else if(rH XA dt kB (inst k).1 l).2=true then((rH XA dt kB (inst k).1 l).1,false)else if late k=true then((rH XA dt kB (inst k).1 l).1,false)
  else VI XA dt inst late kB f (k+1) (rH XA dt kB (inst k).1 l).1
def rounds (QB:RR->CR->Option CR) (r:RR):Nat->CR->List Int
 |0,_=>[]
 |f+1,c=>(rE r c).1++(if(rE r c).2.2=true then[]else match QB r (rO r c)with
  |none=>[]
  |some c'=>rounds QB r f c')
def VH (dt XA:Int):List Int->Int->List Int
 |[],_=>[]
 |t::r,c=>if XA<t then[]else if t<dt then VH dt XA r c else if c=1 then[t]else t::VH dt XA r (if c=0 then 0 else c-1)
def wI (dt XA:Int):List Int->Int->Int×Bool
 |[],c=>(c,false)
 |t::r,c=>if XA<t then(c,true)else if t<dt then wI dt XA r c else if c=1 then(0,true)else wI dt XA r (if c=0 then 0 else c-1)
theorem DZ (dt XA:Int):∀(S E:List Int) (c:Int),zE dt XA S E c=(E++VH dt XA S c,wI dt XA S c)
 |[],E,c=>by simp[zE,VH,wI]
 |t::r,E,c=>by
  unfold zE VH wI
  split
  ·simp
  ·split
   ·rw[DZ dt XA r]
   ·split
    ·rfl
    ·rw[DZ dt XA r];simp
theorem Y3 {dt XA:Int}:∀{S:List Int} {c:Int},(∀t∈S,XA<t)->VH dt XA S c=[]/\(wI dt XA S c).1=c
 |[],c,_=>⟨rfl,rfl⟩
 |t::r,c,h=>by unfold VH wI;rw[if_pos (h t List.mem_cons_self),if_pos (h t List.mem_cons_self)];exact⟨rfl,rfl⟩
theorem Sd {dt XA:Int}:∀{S:List Int} {c:Int},0<c->((VH dt XA S c).length:Int)<=c/\(((VH dt XA S c).length:Int)=c->(wI dt XA S c).2=true)
 |[],c,h=>by simp[VH];omega
 |t::r,c,h=>by
  unfold VH wI
  split
  ·simp;omega
  ·split
   ·exact Sd h
   ·split
    ·simp;omega
    ·rename_i D
     rw[if_neg (show¬c=0 by omega)]
     have:=Sd (dt:=dt) (XA:=XA) (S:=r) (c:=c-1) O
     rw[List.length_cons]
     exact⟨O,λe=>this.2 O⟩
theorem Td {dt XA:Int} {kB:Nat}:∀{S l:List Int} {c:Int},l.length<=kB->(c=0\/(0<c/\(kB:Int)<=l.length+c))->
  (rH XA dt kB S l).1=(l++VH dt XA S c).take kB/\((l++VH dt XA S c).length<kB->(rH XA dt kB S l).2=(wI dt XA S c).2/\(wI dt XA S c).1=(if c=0 then 0 else c- (VH dt XA S c).length)/\0<=(wI dt XA S c).1/\(0<c->0<(wI dt XA S c).1))
 |[],l,c,hl,hc=>by
  refine⟨by simp[rH,VH,List.take_of_length_le hl],λh=> ?_⟩
  refine⟨rfl,?_,by show 0<=c;omega,λh=>h⟩
  show c=if c=0 then 0 else c- ((0:Nat):Int)
  split<;>omega
 |t::r,l,c,hl,hc=>by
  unfold rH VH wI
  by_cases D:XA<t
  ·rw[if_pos D,if_pos D,if_pos D]
   refine⟨by simp[List.take_of_length_le hl],λh=> ?_⟩
   refine⟨rfl,?_,by show 0<=c;omega,λh=>h⟩
   show c=if c=0 then 0 else c- ((0:Nat):Int)
   split<;>omega
  ·rw[if_neg D,if_neg D,if_neg D]
   by_cases h2:t<dt
   ·rw[if_pos h2,if_pos h2,if_neg (λh=>by omega)]
    exact Td hl hc
   ·rw[if_neg h2,if_neg h2]
    by_cases fA:l.length<kB
    ·rw[if_pos ⟨O,fA⟩]
     by_cases h3:c=1
     ·rw[if_pos h3,if_pos h3]
      have hm:kB=l.length+1:=O
      have dR:∀(S:List Int),(rH XA dt kB S (l++[t])).1=l++[t]:=λS=>by
       have hq:kB<=(l++[t]).length:=by simp;omega
       induction S with
       |nil=>rfl
       |cons a S ih=>
        unfold rH
        split
        ·rfl
        ·rw[if_neg (λh=>by omega)];exact ih
      refine⟨by rw[dR,List.take_of_length_le eA],λh=> ?_⟩
      simp at h;omega
     ·rw[if_neg h3,if_neg h3]
      have ih:=Td (dt:=dt) (XA:=XA) (kB:=kB) (S:=r) (l:=l++[t]) (c:=if c=0 then 0 else c-1) eA (by
       by_cases h0:c=0
       ·exact .inl (by rw[if_pos h0])
       ·right;rw[if_neg h0,List.length_append];simp;omega)
      have e:l++t::VH dt XA r (if c=0 then 0 else c-1)=l++[t]++VH dt XA r (if c=0 then 0 else c-1):=by simp
      rw[e]
      refine⟨ih.1,λh=> ?_⟩
      obtain⟨i1,i2,i3,i4⟩:=ih.2 h
      refine⟨i1,?_,i3,λZG=> ?_⟩
      ·rw[i2]
       by_cases h0:c=0
       ·simp[h0]
       ·simp only[if_neg h0];rw[if_neg O,List.length_cons];omega
      ·rw[if_neg (show¬c=0 by omega)]at i4⊢
       exact i4 O
    ·have hm:l.length=kB:=O
     rw[if_neg (λh=>fA h.2)]
     have dR:∀(S:List Int),(rH XA dt kB S l).1=l:=λS=>by
      induction S with
      |nil=>rfl
      |cons a S ih=>
       unfold rH
       split
       ·rfl
       ·rw[if_neg (λh=>by omega)];exact ih
     refine⟨?_,λh=> ?_⟩
     ·rw[dR,List.take_append_of_le_length O,List.take_of_length_le O]
     ·rw[List.length_append]at h;omega
structure nO (QB:RR->CR->Option CR) (r:RR) (inst:Nat->List Int×Bool) (Um:Nat->Bool) (At:Nat->CR->Prop):Prop where
 ok:∀{k c},At k c->(inst k).2=true
 emit:∀{k c},At k c->(inst k).1.length<=2000->rE r c=zE r.dt r.XA (inst k).1 [] c.count
 next:∀{k c c'},At k c->QB r (rO r c)=some c'->c'.count=(rE r c).2.1/\∃k',k<k'/\At k' c'/\∀j,k<j->j<k'->inst j=([],true)
 stop:∀{k c},At k c->QB r (rO r c)=none->∃k',k<k'/\(inst k').2=false/\∀j,k<j->j<k'->inst j=([],true)
 late:∀{k},Um k=true->∀{j},k<=j->∀t∈(inst j).1,r.XA<t
 small:∀{k},Um k=true->∀{j c},k<=j->At j c->(rE r c).1=[]
section
variable {QB:RR->CR->Option CR} {r:RR} {inst:Nat->List Int×Bool} {late:Nat->Bool} {At:Nat->CR->Prop}
theorem Ud (h:nO QB r inst late At) {k:Nat} (hl:late k=true):∀(F:Nat) {j:Nat} {c:CR},k<=j->At j c->rounds QB r F c=[]
 |0,_,_,_,_=>rfl
 |F+1,j,c,hj,hc=>by
  unfold rounds
  rw[h.small hl hj hc,List.nil_append]
  split
  ·rfl
  ·split
   ·rfl
   ·rename_i c' hn
    obtain⟨_,k',D,h2,_⟩:=h.next hc hn
    exact Ud h hl F O h2
theorem Vm {XA dt:Int} {kB:Nat}:∀(f k:Nat) {l want:List Int} {k':Nat},k<=k'->(inst k').2=false->(∀j,k<=j->j<k'->inst j=([],true))->VI XA dt inst late kB f k l=(want,false)->l.length<=kB->want=l
 |0,k,l,want,k',_,_,_,hg,hm=>by
  unfold VI at hg
  split at hg
  ·cases hg;rfl
  ·cases hg
 |f+1,k,l,want,k',hk,D,h2,hg,hm=>by
  unfold VI at hg
  split at hg
  ·cases hg;rfl
  ·split at hg
   ·cases hg
   ·split at hg
    ·cases hg;rfl
    ·rename_i Vd
     rcases Nat.lt_or_ge k k' with fA|IF
     ·rw[h2 k (Nat.le_refl k) fA]at hg
      have e:rH XA dt kB [] l=(l,false):=rfl
      dsimp only at hg
      rw[e,if_neg (show¬(false=true)by decide)]at hg
      split at hg
      ·cases hg;rfl
      ·exact Vm f (k+1) O D (λj hj=>h2 j O) hg hm
     ·have:k=k':=O
      subst this;exact absurd D Vd
theorem Wd (h:nO QB r inst late At) {N kB:Nat} {Ct:Int}:∀(f k:Nat) {l want:List Int} {k':Nat} {c:CR} (F:Nat),f<F+k'-k->k<=k'->(∀j,k<=j->j<k'->inst j=([],true))->At k' c->
  VI r.XA r.dt inst late kB f k l=(want,false)->l.length<=kB->((c.count=0/\kB=N)\/(0<c.count/\(l.length:Int)+c.count=Ct/\(kB:Int)<=Ct/\(kB=N\/((kB:Int)=Ct/\kB<=N))))->l.length<kB->want=(l++rounds QB r F c).take N
 |0,k,l,want,k',c,F,_,_,_,_,hg,hm,_,fA=>by
  unfold VI at hg
  rw[if_neg O]at hg
  cases hg
 |f+1,k,l,want,k',c,F,hF,hk,EZ,PE,hg,hm,kK,fA=>by
  unfold VI at hg
  rw[if_neg O]at hg
  have hmN:kB<=N:=by rcases kK with h|h;omega;rcases h.2.2.2 with h|h<;>omega
  rcases Nat.lt_or_ge k k' with oO|oO
  ·
   have e0:=EZ k (Nat.le_refl k) oO
   rw[e0]at hg
   have e:rH r.XA r.dt kB [] l=(l,false):=rfl
   dsimp only at hg
   rw[e,if_neg (by simp),if_neg (by decide),if_neg (show¬(false=true)by decide)]at hg
   split at hg
   ·rename_i oT
    cases hg
    rw[Ud h oT F hk PE,List.append_nil,List.take_of_length_le O]
   ·exact Wd h f (k+1) F O O (λj hj=>EZ j O) PE hg hm kK fA
  ·have oO:k=k':=O
   subst oO
   split at hg
   ·cases hg
   ·rename_i hlen
    rw[if_neg (by rw[h.ok PE];decide)]at hg
    have KW:=h.emit PE O
    rw[DZ,List.nil_append]at KW
    have uG:c.count=0\/(0<c.count/\(kB:Int)<=l.length+c.count):=by
     rcases kK with h|h
     ·exact .inl h.1
     ·exact .inr ⟨h.1,O⟩
    obtain⟨s1,s2⟩:=Td (dt:=r.dt) (XA:=r.XA) (S:=(inst k).1) (l:=l) (c:=c.count) hm uG
    obtain⟨F,rfl⟩:∃F',F=F'+1:=⟨F-1,O⟩
    have hR:rounds QB r (F+1) c=VH r.dt r.XA (inst k).1 c.count++(if(wI r.dt r.XA (inst k).1 c.count).2=true then[]else match QB r (rO r c)with
      |none=>[]
      |some c'=>rounds QB r F c'):=by
     rw[rounds,KW]
    rw[hR]
    obtain⟨nw,xG⟩:∃nw,nw=VH r.dt r.XA (inst k).1 c.count:=⟨_,rfl⟩
    rw[<-xG]
    rw[<-xG]at s1 s2
    rw[s1]at hg
    rcases Nat.lt_or_ge (l++nw).length kB with JT|Z3
    ·
     obtain⟨t1,t2,t3,t4⟩:=s2 JT
     have e1:(l++nw).take kB=l++nw:=List.take_of_length_le O
     rw[e1,t1]at hg
     by_cases gG:(wI r.dt r.XA (inst k).1 c.count).2=true
     ·rw[if_pos gG]at hg⊢
      cases hg
      rw[List.append_nil,List.take_of_length_le O]
     ·rw[if_neg gG]at hg⊢
      split at hg
      ·rename_i oT
       cases hg
       cases FZ:QB r (rO r c)with
       |none=>dsimp only;rw[List.append_nil,List.take_of_length_le O]
       |some c'=>
        obtain⟨_,k2,q1,q2,_⟩:=h.next PE FZ
        dsimp only
        rw[Ud h oT F O q2,List.append_nil,List.take_of_length_le O]
      ·cases FZ:QB r (rO r c)with
       |none=>
        obtain⟨k2,q1,q2,q3⟩:=h.stop PE FZ
        have:=Vm f (k+1) O q2 (λj hj vB=>q3 j O vB) hg O
        dsimp only
        rw[this,List.append_nil,List.take_of_length_le O]
       |some c'=>
        obtain⟨q0,k2,q1,q2,q3⟩:=h.next PE FZ
        dsimp only
        rw[<-List.append_assoc]
        have Xd:c'.count=(wI r.dt r.XA (inst k).1 c.count).1:=by rw[q0,KW]
        refine Wd (Ct:=Ct) h f (k+1) F O O (λj hj vB=>q3 j O vB) q2 hg O ?_ JT
        rcases kK with hc|hc
        ·exact .inl ⟨by rw[Xd,t2,if_pos hc.1],hc.2⟩
        ·refine .inr ⟨by rw[Xd];exact t4 hc.1,?_,hc.2.2.1,hc.2.2.2⟩
         rw[Xd,t2,if_neg O,List.length_append];omega
    ·
     have hw:want=(l++nw).take kB:=by
      split at hg
      ·cases hg;rfl
      ·split at hg
       ·cases hg;rfl
       ·have pO:((l++nw).take kB).length=kB:=by rw[List.length_take];omega
        cases f with
        |zero=>unfold VI at hg;rw[if_pos O]at hg;cases hg;rfl
        |succ f=>unfold VI at hg;rw[if_pos O]at hg;cases hg;rfl
     rw[hw]
     by_cases Yd:kB=N
     ·rw[Yd,<-List.append_assoc,List.take_append_of_le_length (l₁:=l++nw) O]
     ·have hc:0<c.count/\(l.length:Int)+c.count=Ct/\(kB:Int)=Ct:=by
       rcases kK with h|h
       ·exact absurd h.2 Yd
       ·refine⟨h.1,h.2.1,?_⟩
        rcases h.2.2.2 with h|h
        ·exact absurd h Yd
        ·exact h.1
      have hn:=Sd (dt:=r.dt) (XA:=r.XA) (S:=(inst k).1) hc.1
      rw[<-xG]at hn
      rw[List.length_append]at Z3
      rw[if_pos (hn.2 O),List.append_nil,List.take_of_length_le (by rw[List.length_append];omega),List.take_of_length_le (by rw[List.length_append];omega)]
end
def WB (c:CR):CR:={c with st:=[],so:=0,sl:=0,total:=0,ds:=[]}
theorem MFA (c:CR):WB (WB c)=WB c:=rfl
theorem j3 (r:RR) (c:CR):rE r (WB c)=rE r c:=rfl
structure xI (QB:RR->CR->Option CR) (r:RR) (P:CR->Prop) (lim:CR->Nat):Prop where
 step:∀{c c'},P (WB c)->QB r (rO r c)=some c'->P (WB c')/\lim (WB c')<lim (WB c)
 pos:∀{c},P (WB c)->1<=lim (WB c)
 eqv:∀c,(QB r (rO r c)).map WB=(QB r (rO r (WB c))).map WB
 eR:∀{c c'},QB r c=some c'->c'.st=c.st/\c'.so=c.so/\c'.sl=c.sl/\c'.total=c.total
 len:∀{c},P (WB c)->(rE r c).1.length<=40000
def sH (st:List Int) (so sl:Nat):List Int:=(st.drop so).take sl
abbrev Dv:=CR⊕(List Int×Nat×Nat)
def LD (so sl:Nat):Nat:=if sl=0 then so else if sl=1 then 0 else so+1
def xJ:Dv->Option Int×Dv
 | .inl c=>if c.sl=0 then(none, .inl c)else(some (c.st.getD c.so 0), .inl {c with so:=LD c.so c.sl,sl:=c.sl-1})
 | .inr (st,so,sl)=>if sl=0 then(none, .inr (st,so,sl))else(some (st.getD so 0), .inr (st,LD so sl,sl-1))
section
variable {QB:RR->CR->Option CR} {r:RR} {P:CR->Prop} {lim:CR->Nat}
theorem GZ (h:xI QB r P lim):∀(F:Nat) (c:CR),rounds QB r F c=rounds QB r F (WB c)
 |0,_=>rfl
 |F+1,c=>by
  unfold rounds
  rw[j3]
  have he:=h.eqv c
  cases D:QB r (rO r c)with
  |none=>
   rw[D]at he
   cases h2:QB r (rO r (WB c))with
   |none=>rfl
   |some c2=>rw[h2]at he;cases he
  |some c1=>
   rw[D]at he
   cases h2:QB r (rO r (WB c))with
   |none=>rw[h2]at he;cases he
   |some c2=>
    rw[h2]at he
    have e:WB c1=WB c2:=Option.some.inj he
    dsimp only
    rw[GZ h F c1,GZ h F c2,e]
theorem Wm (h:xI QB r P lim):∀(F AC:Nat) (c:CR),P (WB c)->lim (WB c)<=F->lim (WB c)<=AC->rounds QB r F c=rounds QB r AC c
 |0,_,c,hp,hF,_=>by have:=h.pos hp;omega
 |_+1,0,c,hp,_,hG=>by have:=h.pos hp;omega
 |F+1,AC+1,c,hp,hF,hG=>by
  unfold rounds
  split
  ·rfl
  ·cases D:QB r (rO r c)with
   |none=>rfl
   |some c'=>
    obtain⟨q1,q2⟩:=h.step hp D
    dsimp only
    rw[Wm h F AC c' q1 O O]
def zM (QB:RR->CR->Option CR) (r:RR) (lim:CR->Nat) (c:CR):List Int:=rounds QB r (lim (WB c)) (WB c)
theorem Xm (h:xI QB r P lim) {c:CR} (hp:P (WB c)) {F:Nat} (hF:lim (WB c)<=F):rounds QB r F c=zM QB r lim c:=(Wm h _ _ _ hp hF qA).trans (GZ h _ c)
def MW (QB:RR->CR->Option CR) (r:RR) (lim:CR->Nat):Dv->List Int
 | .inl c=>sH c.st c.so c.sl++zM QB r lim c
 | .inr (st,so,sl)=>sH st so sl
def zL (QB:RR->CR->Option CR) (r:RR) (lim:CR->Nat):Dv->Dv
 | .inl c=>match TC QB r (lim (WB c)) c with
  | .inl c'=> .inl c'
  | .inr p=> .inr (p.1,0,p.2)
 | .inr x=> .inr x
structure fR (P:CR->Prop) (lim:CR->Nat) (K:Int) (c:CR):Prop where
 p:P (WB c)
 le:c.so+c.sl<=c.st.length
 so:c.sl=0->c.so=0
 AN:0<=c.total
 Zd:c.total+40000*(lim (WB c):Int)<=K
def xP (P:CR->Prop) (lim:CR->Nat) (K:Int):Dv->Prop
 | .inl c=>fR P lim K c
 | .inr (st,so,sl)=>so+sl<=st.length/\(sl=0->so=0)
theorem Ym (h:xI QB r P lim) {K:Int}:∀(n:Nat) (c:CR),lim (WB c)<=n->fR P lim K c->
  (match TC QB r n c with
   | .inl c'=>fR P lim K c'/\c'.sl≠0/\sH c'.st c'.so c'.sl++zM QB r lim c'=sH c.st c.so c.sl++zM QB r lim c
   | .inr p=>p.2<=p.1.length/\sH p.1 0 p.2=sH c.st c.so c.sl++zM QB r lim c)
 |0,c,hn,hi=>by have:=h.pos hi.p;omega
 |n+1,c,hn,hi=>by
  unfold TC
  by_cases oB:c.sl=0
  ·rw[if_neg (by simp[oB])]
   have TG:=hi.so oB
   have qO:sH c.st c.so c.sl=[]:=by unfold sH;rw[oB];simp
   have AT:=h.pos hi.p
   have vD:zM QB r lim c=(rE r c).1++(if(rE r c).2.2=true then[]else match QB r (rO r c)with
     |none=>[]
     |some c'=>rounds QB r (lim (WB c)-1) c'):=by
    rw[show zM QB r lim c=rounds QB r (lim (WB c)) c from(GZ h _ c).symm]
    obtain⟨m,hm⟩:∃m,lim (WB c)=m+1:=⟨lim (WB c)-1,O⟩
    rw[hm,rounds];rfl
   have gG:sH (nD c.st (rE r c).1) 0 (rE r c).1.length=(rE r c).1:=by
    unfold sH nD
    rw[List.drop_zero]
    split
    ·rename_i e;rw[e];simp
    ·rw[List.take_length]
   rw[qO,List.nil_append,vD]
   by_cases hf:(rE r c).2.2=true
   ·rw[if_pos hf,if_pos hf,List.append_nil]
    exact⟨IW _ _,gG⟩
   ·rw[if_neg hf,if_neg hf]
    cases D:QB r (rO r c)with
    |none=>dsimp only;rw[List.append_nil];exact⟨IW _ _,gG⟩
    |some c'=>
     dsimp only
     obtain⟨q1,q2⟩:=h.step hi.p D
     obtain⟨k1,k2,k3,k4⟩:=h.eR D
     have k1:c'.st=nD c.st (rE r c).1:=k1
     have k2:c'.so=0:=k2
     have k3:c'.sl=(rE r c).1.length:=k3
     have k4:c'.total=c.total+(rE r c).1.length:=k4
     have hlen:=h.len hi.p
     have mL:fR P lim K c':=⟨q1,by rw[k1,k2,k3];have:=IW c.st (rE r c).1;omega,λ_=>k2,by have:=hi.AN;omega,by have:=hi.Zd;rw[k4];omega⟩
     have o3:sH c'.st c'.so c'.sl=(rE r c).1:=by rw[k1,k2,k3];exact gG
     have x3:rounds QB r (lim (WB c)-1) c'=zM QB r lim c':=Xm h q1 O
     have ih:=Ym h n c' O mL
     rw[o3,<-x3]at ih
     exact ih
  ·rw[if_pos oB]
   exact⟨hi,oB,rfl⟩
theorem Zm (h:xI QB r P lim) {K:Int} {d:Dv} (hd:xP P lim K d):xP P lim K (zL QB r lim d)/\MW QB r lim (zL QB r lim d)=MW QB r lim d/\(∀c',zL QB r lim d= .inl c'->c'.sl≠0):=by
 match d,hd with
 | .inl c,hd=>
  have:=Ym h (lim (WB c)) c qA hd
  cases hg:TC QB r (lim (WB c)) c with
  |inl c'=>
   rw[hg]at this
   rw[show zL QB r lim (.inl c)= .inl c' by show(match TC QB r (lim (WB c)) c with| .inl c'=>(.inl c':Dv)| .inr p=> .inr (p.1,0,p.2))=_;rw[hg]]
   exact⟨this.1,this.2.2,λc2 e=>by cases e;exact this.2.1⟩
  |inr p=>
   rw[hg]at this
   rw[show zL QB r lim (.inl c)= .inr (p.1,0,p.2)by show(match TC QB r (lim (WB c)) c with| .inl c'=>(.inl c':Dv)| .inr p=> .inr (p.1,0,p.2))=_;rw[hg]]
   exact⟨⟨O,λ_=>rfl⟩,this.2,λc2 e=>by cases e⟩
 | .inr x,hd=>exact⟨hd,rfl,λc2 e=>by cases e⟩
theorem im {st:List Int} {so sl:Nat} (h:so+sl<=st.length) (h0:sl≠0):sH st so sl=st.getD so 0::sH st (LD so sl) (sl-1):=by
 unfold sH LD
 obtain⟨k,rfl⟩:∃k,sl=k+1:=⟨sl-1,O⟩
 rw[if_neg h0,List.drop_eq_getElem_cons O,List.take_succ_cons,Nat.add_sub_cancel,List.getD_eq_getElem?_getD,List.getElem?_eq_getElem O]
 by_cases D:k+1=1
 ·have:k=0:=O
  subst this;simp
 ·rw[if_neg D];rfl
theorem jm {K:Int} {d:Dv} (hd:xP P lim K d) (A4:∀c',d= .inl c'->c'.sl≠0):xP P lim K (xJ d).2/\MW QB r lim d=(match(xJ d).1 with
  |none=>[]
  |some t=>t::MW QB r lim (xJ d).2):=by
 match d,hd with
 | .inl c,hd=>
  have h0:=A4 c rfl
  rw[show xJ (.inl c)=(some (c.st.getD c.so 0), .inl {c with so:=LD c.so c.sl,sl:=c.sl-1})from if_neg h0]
  have hle:=hd.le
  refine⟨⟨hd.p,?_,?_,hd.AN,hd.Zd⟩,?_⟩
  ·show LD c.so c.sl+(c.sl-1)<=c.st.length
   unfold LD;rw[if_neg h0];split<;>omega
  ·show c.sl-1=0->LD c.so c.sl=0
   intro h;unfold LD;rw[if_neg h0,if_pos O]
  ·show sH c.st c.so c.sl++zM QB r lim c=c.st.getD c.so 0::(sH c.st (LD c.so c.sl) (c.sl-1)++zM QB r lim {c with so:=LD c.so c.sl,sl:=c.sl-1})
   rw[im hle h0,List.cons_append];rfl
 | .inr (st,so,sl),hd=>
  by_cases h0:sl=0
  ·rw[show xJ (.inr (st,so,sl))=(none, .inr (st,so,sl))from if_pos h0]
   refine⟨hd,?_⟩
   show sH st so sl=[]
   unfold sH;rw[h0];simp
  ·rw[show xJ (.inr (st,so,sl))=(some (st.getD so 0), .inr (st,LD so sl,sl-1))from if_neg h0]
   have hle:so+sl<=st.length:=hd.1
   refine⟨⟨?_,?_⟩,?_⟩
   ·unfold LD;rw[if_neg h0];split<;>omega
   ·intro h;unfold LD;rw[if_neg h0,if_pos O]
   ·exact im hle h0
end
def TJ (QB:RR->CR->Option CR) (r:RR) (lim:CR->Nat):Nat->Dv->List Int
 |0,_=>[]
 |n+1,d=>match(xJ (zL QB r lim d)).1 with
  |none=>[]
  |some t=>t::TJ QB r lim n (xJ (zL QB r lim d)).2
theorem km {QB:RR->CR->Option CR} {r:RR} {P:CR->Prop} {lim:CR->Nat} (h:xI QB r P lim) {K:Int}:∀(n:Nat) {d:Dv},xP P lim K d->TJ QB r lim n d=(MW QB r lim d).take n
 |0,d,_=>by simp[TJ]
 |n+1,d,hd=>by
  obtain⟨g1,g2,g3⟩:=Zm h hd
  obtain⟨p1,p2⟩:=jm g1 g3
  unfold TJ
  rw[<-g2,p2]
  cases hp:(xJ (zL QB r lim d)).1 with
  |none=>simp
  |some t=>dsimp only;rw[List.take_succ_cons,km h n p1]
def BN (W:MA) (T:List Int):Nat->Int->List Int->List Int
 |0,_,out=>out
 |m+1,n,out=>if 2000<out.length then out else BN W T m (n+1) (out++DI W T n)
def lK (W:MA) (T:List Int) (k:Nat):List Int:=if(NC W k).2.2=true then BN W T ((NC W k).2.1+1-max (NC W k).1 0).toNat (max (NC W k).1 0) []else[]
def AM (W:MA) (T:List Int) (k:Nat):List Int×Bool:=(if 2000<(lK W T k).length then lK W T k else gE (lK W T k) W.OB,(NC W k).2.2)
def yI (W:MA) (k:Nat):Bool:=decide (W.BA<4)&&decide ((NC W k).1>W.xB/86400)
def zT (W:MA) (T:List Int) (k:Nat):List Int:=gE (pF W T (NC W k).1 ((NC W k).2.1+1- (NC W k).1).toNat) W.OB
theorem B4 (W:MA) (T:List Int) (n:Int) (m:Nat):pF W T n (m+1)=DI W T n++pF W T (n+1) m:=by
 unfold pF
 rw[List.range_succ_eq_map,List.flatMap_cons,List.flatMap_map]
 congr 1
 ·simp
 ·exact xT λj _=>by rw[show n+((j+1:Nat):Int)=n+1+(j:Int)by omega]
theorem om (W:MA) (T:List Int):∀(m:Nat) (n:Int) (out:List Int),(BN W T m n out).length<=2000->BN W T m n out=out++pF W T n m
 |0,n,out,_=>by simp[BN,pF]
 |m+1,n,out,h=>by
  unfold BN at h⊢
  split
  ·rename_i D;rw[if_pos D]at h;omega
  ·rename_i D
   rw[if_neg D]at h
   rw[om W T m _ _ h,B4,List.append_assoc]
theorem tm {W:MA} {T:List Int} (hT:LW T):∀(m:Nat) (n:Int) (out:List Int) {t:Int},t∈BN W T m n out->t∈out\/n*86400<=t
 |0,n,out,t,h=> .inl h
 |m+1,n,out,t,h=>by
  unfold BN at h
  split at h
  ·exact .inl h
  ·rcases tm hT m (n+1) _ h with h|h
   ·rcases List.mem_append.1 h with h|h
    ·exact .inl h
    ·unfold DI at h
     split at h
     ·obtain⟨u,hu,rfl⟩:=List.mem_map.1 h
      have:=hT.range u hu
      exact .inr O
     ·simp at h
   ·exact .inr O
theorem um {L ps:List Int} {t:Int} (h:t∈gE L ps):t∈L:=by
 unfold gE at h
 split at h
 ·exact h
 ·unfold QJ at h
  obtain⟨j,hj,rfl⟩:=List.mem_map.1 h
  have:=List.mem_range.1 (List.mem_filter.1 hj).1
  rw[List.getD_eq_getElem?_getD,List.getElem?_eq_getElem this]
  exact List.getElem_mem this
theorem C4 {W:MA} {T:List Int} {k:Nat} (h0:0<=(NC W k).1) (dB:(NC W k).2.2=true) (h:(AM W T k).1.length<=2000):(AM W T k).1=zT W T k:=by
 unfold AM at h⊢
 dsimp only at h⊢
 split
 ·rename_i D;rw[if_pos D]at h;omega
 ·rename_i D
  have:lK W T k=pF W T (NC W k).1 ((NC W k).2.1+1- (NC W k).1).toNat:=by
   unfold lK at D⊢
   rw[if_pos dB]at D⊢
   rw[om W T _ _ _ O,show max (NC W k).1 0=(NC W k).1 by omega,List.nil_append]
  rw[this];rfl
structure yJ (r:RR) (W:MA) (T:List Int):Prop where
 o:Of r W
 dk:wM W
 tok:LW T
 D4:T≠[]
 E4:T.length<=100
 sp:∀p∈W.OB,p≠0
 F4:W.OB.length<=100
 EA:1<=W.IA/\W.IA<=1000
 GA:31536000<=W.GA/\W.GA<before 9001*86400
 XA:W.GA<=W.xB
 EB:0<=W.count/\W.count<=1000
theorem vm {y:Int} (h:1<=y/\y<=100000):oA (wC y)=y:=by
 have D:=uV (y:=y) O
 have h2:=tB y
 have h3:GB (lp y) 3=59+lp y:=by rcases wT y with h|h<;>rw[h]<;>decide
 refine MR ?_ ?_
 ·unfold wC NA;omega
 ·rw[NG];unfold wC NA;omega
section
variable {r:RR} {W:MA} {T:List Int}
theorem round_eq (b:yJ r W T) {c:CR} (sD:c.ts=T) (ha:(YB r c).1<=(YB r c).2) (hk:∀i,(YB r c).1<=i->i<(YB r c).2->jF r (QA r c) i= !stays W (before c.y+i)):
  rE r c=zE r.dt r.XA (gE (pF W T (before c.y+(YB r c).1) ((YB r c).2- (YB r c).1)) W.OB) [] c.count:=by
 have D:=Lm ha hk
 unfold rE
 rw[X3 (x:=QA r (rD r c)) (sp:=r.sp) (by show c.ts≠[];rw[sD];exact b.D4) D (by rw[sD];exact Mm b.tok _ _) (by rw[b.o.sp];exact b.sp),sD,b.o.sp]
theorem G4 (b:yJ r W T) {f:Int} {len:Nat} (h:f>W.xB/86400):∀t∈gE (pF W T f len) W.OB,r.XA<t:=λt ht=>by
 have:=Od b.tok (um ht)
 rw[b.o.XA];omega
theorem HZ (b:yJ r W T) {QB:RR->CR->Option CR} {At:Nat->CR->Prop} (hA:∀{k c},At k c->0<=(NC W k).1/\(NC W k).2.2=true/\rE r c=zE r.dt r.XA (zT W T k) [] c.count)
  (hB:∀{k j:Nat},k<=j->(NC W k).1<=(NC W j).1)
  (hC:∀{k c c'},At k c->QB r (rO r c)=some c'->c'.count=(rE r c).2.1/\At (k+1) c') (hS:∀{k c},At k c->QB r (rO r c)=none->(NC W ((k+1:Nat):Int)).2.2=false):nO QB r (AM W T) (yI W) At where
 ok h:=(hA h).2.1
 emit h hl:=by rw[(hA h).2.2,C4 (hA h).1 (hA h).2.1 hl]
 next {k c c'} h hn:=⟨(hC h hn).1,k+1,Nat.lt_succ_self k,(hC h hn).2,λj D h2=>by omega⟩
 stop {k c} h hn:=⟨k+1,Nat.lt_succ_self k,hS h hn,λj D h2=>by omega⟩
 late {k} hl {j} hj t ht:=by
  have hl:(NC W k).1>W.xB/86400:=by
   unfold yI at hl;rw[Bool.and_eq_true,decide_eq_true_eq,decide_eq_true_eq]at hl;exact hl.2
  have hm:=hB hj
  have LI:t∈lK W T j:=by
   unfold AM at ht
   dsimp only at ht
   split at ht
   ·exact ht
   ·exact um ht
  unfold lK at LI
  split at LI
  ·rcases tm b.tok _ _ _ LI with h|h
   ·simp at h
   ·rw[b.o.XA]
    have:(NC W k).1<=max (NC W j).1 0:=O
    omega
  ·simp at LI
 small {k} hl {j c} hj h:=by
  have hl:(NC W k).1>W.xB/86400:=by
   unfold yI at hl;rw[Bool.and_eq_true,decide_eq_true_eq,decide_eq_true_eq]at hl;exact hl.2
  have hm:=hB hj
  rw[(hA h).2.2,DZ,List.nil_append]
  exact(Y3 (G4 b O)).1
structure LQ (c:CR):Prop where
 y:2<=c.y/\c.y<=9999
 m:1<=c.m/\c.m<=12
 d:1<=c.d/\c.d<=31
 hh:0<=c.hh/\c.hh<=23
 mi:0<=c.mi/\c.mi<=59
 s:0<=c.s/\c.s<=59
 wd:0<=c.wd/\c.wd<=6
 ts:c.ts.length<=100/\∀t∈c.ts,0<=t/\t<86400
 count:0<=c.count/\c.count<=1000
theorem H4 (r:RR) (c:CR):(YB r c).2- (YB r c).1<=400:=by
 have hl:=tB c.y
 have D:=bG (l:=lp c.y) (m:=c.m) hl
 have h2:=bG (l:=lp c.y) (m:=c.m+1) hl
 unfold YB
 (repeat' split)<;>dsimp only<;>(try unfold CG sM)<;>omega
theorem xm {r:RR} (uF:r.sp.length<=100) {c:CR} (h:LQ c):(rE r c).1.length<=40000:=by
 have D:=AZ r.dt r.XA (TH r.sp (QA r (rD r c))) [] c.count
 have h2:(TH r.sp (QA r (rD r c))).length<=40000:=by
  unfold TH
  split
  ·rw[List.length_mergeSort]
   have:=uT (QA r (rD r c)) r.sp r.sp.length
   rw[List.take_length]at this
   omega
  ·have:=Ld (QA r (rD r c)) (QA r (rD r c)).ds
   have h4:(QA r (rD r c)).ds.length<=400:=by
    have:=H4 r c
    show(RG r _ _ _).length<=400
    unfold RG
    have e:(QA r (oF r c)).ds.length=(YB r c).2- (YB r c).1:=by show(SD _ _).length=_;unfold SD;simp
    rw[List.take_length,List.drop_length,List.append_nil,List.length_map,e];exact this
   have h3:(QA r (rD r c)).ds.length*(QA r (rD r c)).ts.length<=400*100:=Nat.mul_le_mul h4 h.ts.1
   omega
 unfold rE;simp at D;omega
theorem IZ (b:yJ r W T) {c:CR} (h:LQ c):(rE r c).1.length<=40000:=xm (by rw[b.o.sp];exact b.F4) h
theorem sO (r:RR) {c:CR} (h:LQ c):0<=(rE r c).2.1/\(rE r c).2.1<=1000:=iN _ _ _ _ _ h.count
theorem JZ (b:yJ r W T) {c:CR} (h:LQ c) {i:Nat} (hi:(i:Int)<365+lp c.y) (hm:W.BA=1->BE (lp c.y) i=c.m):jF r (QA r c) i= !stays W (before c.y+i):=
 Km b.o b.dk hi (by have:=h.y;omega) (vm (by have:=h.y;omega)) hm
end
section
variable {r:RR} {W:MA} {T:List Int}
theorem I4 (b:yJ r W T) (hf:W.BA=0):nO bK r (AM W T) (yI W) λk c=>LQ c/\c.ts=T/\c.y=oA (W.GA/86400)+(k:Int)*W.IA:=by
 have hp:∀k:Nat,NC W k=(before (oA (W.GA/86400)+(k:Int)*W.IA),before (oA (W.GA/86400)+(k:Int)*W.IA+1)-1,decide (oA (W.GA/86400)+(k:Int)*W.IA<=9999)):=λk=>by
  unfold NC;simp only;rw[if_pos hf]
 have KG:r.BA=0:=by rw[b.o.BA];exact hf
 refine HZ b ?_ ?_ ?_ ?_
 ·rintro k c ⟨D,h2,h3⟩
  have hl:=tB c.y
  have hy:=D.y
  have hd:YB r c=(0,(365+lp c.y).toNat):=by unfold YB;rw[if_pos KG]
  refine⟨by rw[hp,<-h3];show 0<=before c.y;unfold before;omega,by rw[hp,<-h3];exact decide_eq_true hy.2,?_⟩
  rw[round_eq b h2 (by rw[hd];exact Nat.zero_le _) (λi _ hi=>JZ b D (by rw[hd]at hi;dsimp only at hi;omega) (λh=>by omega))]
  unfold zT
  rw[hp,<-h3,hd]
  dsimp only
  rw[show before c.y+((0:Nat):Int)=before c.y by omega,show before (c.y+1)-1+1-before c.y=365+lp c.y by rw[NG];omega,Nat.sub_zero]
 ·intro k j bd
  rw[hp,hp]
  have:(k:Int)*W.IA<=(j:Int)*W.IA:=Int.mul_le_mul_of_nonneg_right O (by have:=b.EA;omega)
  exact VN O
 ·rintro k c c' ⟨D,h2,h3⟩ hn
  have hc:=sO r D
  have hy:=D.y
  have hi:=b.EA
  have hn:(if c.y+r.EA>9999 then none else some {rO r c with y:=c.y+r.EA})=some c':=hn
  split at hn
  ·cases hn
  ·cases hn
   rw[b.o.EA]at*
   exact⟨rfl,⟨by show 2<=c.y+W.IA/\c.y+W.IA<=9999;omega,D.m,D.d,D.hh,D.mi,D.s,D.wd,D.ts,hc⟩,h2,by show c.y+W.IA=_;rw[h3,Int.natCast_add,Int.add_mul];simp;omega⟩
 ·rintro k c ⟨D,h2,h3⟩ hn
  have hn:(if c.y+r.EA>9999 then none else some {rO r c with y:=c.y+r.EA})=none:=hn
  split at hn
  ·rename_i h
   rw[hp,b.o.EA]at*
   rw[Int.natCast_add,Int.add_mul]
   exact decide_eq_false eA
  ·cases hn
theorem J4 (b:yJ r W T):xI bK r LQ jN where
 step {c c'} h hn:=by
  have hc:=sO r h
  have hy:=h.y
  have hi:=b.EA
  have hn:(if c.y+r.EA>9999 then none else some {rO r c with y:=c.y+r.EA})=some c':=hn
  split at hn
  ·cases hn
  ·cases hn
   rw[b.o.EA]at*
   refine⟨⟨by show 2<=c.y+W.IA/\c.y+W.IA<=9999;have:2<=c.y/\c.y<=9999:=hy;omega,h.m,h.d,h.hh,h.mi,h.s,h.wd,h.ts,hc⟩,?_⟩
   show(10000- (c.y+W.IA)).toNat<(10000-c.y).toNat
   have:2<=c.y/\c.y<=9999:=hy
   omega
 pos {c} h:=by have:2<=c.y/\c.y<=9999:=h.y;show 1<=(10000-c.y).toNat;omega
 eqv c:=by
  show(if c.y+r.EA>9999 then none else some {rO r c with y:=c.y+r.EA}).map WB=(if c.y+r.EA>9999 then none else some {rO r (WB c)with y:=c.y+r.EA}).map WB
  split<;>rfl
 eR {c c'} h:=by
  unfold bK at h
  split at h
  ·cases h
  ·cases h;exact⟨rfl,rfl,rfl,rfl⟩
 len {c} h:=IZ b (c:=WB c) h
end
theorem K4 {y m y' m':Int} (hm:1<=m/\m<=12) (KZ:1<=m'/\m'<=12) (h:12*y+m<=12*y'+m'):NA y m 1<=NA y' m' 1:=by
 have hl:=tB y
 have gR:=tB y'
 unfold NA
 rcases(by omega:y=y'\/y<y')with D|D
 ·subst D
  have:=mH hl (show m<=m' by omega)
  omega
 ·have h2:=VN (show y+1<=y' by omega)
  rw[NG]at h2
  have h3:=mH hl (show m<=13 by omega)
  rw[cN]at h3
  have h4:=bG (l:=lp y') (m:=m') gR
  omega
section
variable {r:RR} {W:MA} {T:List Int}
theorem ym {r:RR} {c c':CR} (h:fG r c=some c') (hm:1<=c.m/\c.m<=12) (hi:1<=r.EA) (hy:c.y<=9999):c'={c with y:=c'.y,m:=c'.m}/\12*c'.y+c'.m=12*c.y+c.m+r.EA/\(1<=c'.m/\c'.m<=12)/\c'.y<=9999:=by
 unfold fG at h
 by_cases D:c.m+r.EA>12
 ·rw[if_pos D]at h
  by_cases h2:(c.m+r.EA)%12=0
  ·simp only[if_pos h2]at h
   split at h
   ·cases h
   ·cases h;exact⟨rfl,by dsimp only;omega,by dsimp only;omega,by dsimp only;omega⟩
  ·simp only[if_neg h2]at h
   split at h
   ·cases h
   ·cases h;exact⟨rfl,by dsimp only;omega,by dsimp only;omega,by dsimp only;omega⟩
 ·rw[if_neg D]at h
  cases h;exact⟨rfl,by dsimp only;omega,by dsimp only;omega,by dsimp only;omega⟩
theorem L4 {r:RR} {c:CR} (h:fG r c=none) (hm:1<=c.m/\c.m<=12) (hi:1<=r.EA):12*9999+12<12*c.y+c.m+r.EA:=by
 unfold fG at h
 by_cases D:c.m+r.EA>12
 ·rw[if_pos D]at h
  by_cases h2:(c.m+r.EA)%12=0
  ·simp only[if_pos h2]at h
   split at h
   ·omega
   ·cases h
  ·simp only[if_neg h2]at h
   split at h
   ·omega
   ·cases h
 ·rw[if_neg D]at h;cases h
theorem M4 (b:yJ r W T) (hf:W.BA=1):nO fG r (AM W T) (yI W) λk c=>LQ c/\c.ts=T/\12*c.y+c.m=12*oA (W.GA/86400)+KB (W.GA/86400)+(k:Int)*W.IA:=by
 obtain⟨y0,zm⟩:∃y0,y0=oA (W.GA/86400):=⟨_,rfl⟩
 obtain⟨m0,xM⟩:∃m0,m0=KB (W.GA/86400):=⟨_,rfl⟩
 have NFA:1<=m0/\m0<=12:=by rw[xM];exact OI _ _
 rw[<-zm,<-xM]
 have hp:∀k:Nat,NC W k=(NA (y0+(m0-1+(k:Int)*W.IA)/12) ((m0-1+(k:Int)*W.IA)%12+1) 1,NA (y0+(m0-1+(k:Int)*W.IA)/12) ((m0-1+(k:Int)*W.IA)%12+1) 1+fB (y0+(m0-1+(k:Int)*W.IA)/12) ((m0-1+(k:Int)*W.IA)%12+1)-1,decide (y0+(m0-1+(k:Int)*W.IA)/12<=9999)):=λk=>by
  unfold NC;simp only;rw[if_neg O,if_pos hf,<-zm,<-xM]
 have KG:r.BA=1:=by rw[b.o.BA];exact hf
 refine HZ b ?_ ?_ ?_ ?_
 ·rintro k c ⟨D,h2,h3⟩
  have hl:=tB c.y
  have hy:=D.y
  have hm:=D.m
  have e1:y0+(m0-1+(k:Int)*W.IA)/12=c.y:=O
  have e2:(m0-1+(k:Int)*W.IA)%12+1=c.m:=O
  have hp:=hp k
  rw[e1,e2]at hp
  have hd:YB r c=((GB (lp c.y) c.m).toNat,(GB (lp c.y) (c.m+1)).toNat):=by unfold YB;rw[if_neg O,if_pos KG]
  have GL:=bG (l:=lp c.y) (m:=c.m) hl
  have Vc:=FL (y:=c.y) hm.1 hm.2
  have NW:=mH hl (show c.m+1<=13 by omega)
  have SK:= @OG c.y c.m
  rw[cN]at NW
  refine⟨by rw[hp];show 0<=NA c.y c.m 1;unfold NA before;omega,by rw[hp];exact decide_eq_true hy.2,?_⟩
  rw[round_eq b h2 (by rw[hd];dsimp only;omega) (λi ha hi=>by
   rw[hd]at ha hi;dsimp only at ha hi
   exact JZ b D O (λ_=>rV hl ⟨O,O⟩ O O))]
  unfold zT
  rw[hp,hd]
  dsimp only
  rw[show before c.y+(((GB (lp c.y) c.m).toNat:Nat):Int)=NA c.y c.m 1 by unfold NA;omega,show(GB (lp c.y) (c.m+1)).toNat- (GB (lp c.y) c.m).toNat=(NA c.y c.m 1+fB c.y c.m-1+1-NA c.y c.m 1).toNat by omega]
 ·intro k j bd
  rw[hp,hp]
  have:(k:Int)*W.IA<=(j:Int)*W.IA:=Int.mul_le_mul_of_nonneg_right O (by have:=b.EA;omega)
  exact K4 O O O
 ·rintro k c c' ⟨D,h2,h3⟩ hn
  have hc:=sO r D
  have hi:=b.EA
  obtain⟨q1,q2,q3,q4⟩:=ym hn D.m (by rw[b.o.EA];omega) D.y.2
  have q2:12*c'.y+c'.m=12*c.y+c.m+r.EA:=q2
  rw[b.o.EA]at q2
  have hy:=D.y
  have hm:=D.m
  rw[q1]
  exact⟨rfl,⟨by show 2<=c'.y/\c'.y<=9999;omega,q3,D.d,D.hh,D.mi,D.s,D.wd,D.ts,hc⟩,h2,by show 12*c'.y+c'.m=_;rw[Int.natCast_add,Int.add_mul];simp;omega⟩
 ·rintro k c ⟨D,h2,h3⟩ hn
  have hi:=b.EA
  have q:=L4 hn D.m (by rw[b.o.EA];omega)
  have q:12*9999+12<12*c.y+c.m+r.EA:=q
  rw[b.o.EA]at q
  rw[hp,Int.natCast_add,Int.add_mul]
  exact decide_eq_false eA
theorem N4 (b:yJ r W T):xI fG r LQ NL where
 step {c c'} h hn:=by
  have hc:=sO r h
  have hy:2<=c.y/\c.y<=9999:=h.y
  have hm:1<=c.m/\c.m<=12:=h.m
  have hi:=b.EA
  obtain⟨q1,q2,q3,q4⟩:=ym hn hm (by rw[b.o.EA];omega) hy.2
  have q2:12*c'.y+c'.m=12*c.y+c.m+r.EA:=q2
  rw[b.o.EA]at q2
  refine⟨by rw[q1];exact⟨by show 2<=c'.y/\c'.y<=9999;omega,q3,h.d,h.hh,h.mi,h.s,h.wd,h.ts,hc⟩,?_⟩
  show(120001- (12*c'.y+c'.m)).toNat<(120001- (12*c.y+c.m)).toNat
  omega
 pos {c} h:=by
  have:2<=c.y/\c.y<=9999:=h.y
  have:1<=c.m/\c.m<=12:=h.m
  show 1<=(120001- (12*c.y+c.m)).toNat;omega
 eqv c:=by
  have:∀a b:CR,a.y=b.y->a.m=b.m->WB a=WB b->(fG r a).map WB=(fG r b).map WB:=λa b D h2 h3=>by
   have h3:CR.mk _ _ _ _ _ _ _ _ _ _ _ _ _ _=CR.mk _ _ _ _ _ _ _ _ _ _ _ _ _ _:=h3
   simp only[CR.mk.injEq]at h3
   unfold fG
   rw[D,h2]
   (repeat' split)<;>simp[WB,h3]
  exact this _ _ rfl rfl rfl
 eR {c c'} h:=by
  unfold fG at h
  by_cases D:c.m+r.EA>12
  ·rw[if_pos D]at h
   by_cases h2:(c.m+r.EA)%12=0
   ·simp only[if_pos h2]at h
    split at h
    ·cases h
    ·cases h;exact⟨rfl,rfl,rfl,rfl⟩
   ·simp only[if_neg h2]at h
    split at h
    ·cases h
    ·cases h;exact⟨rfl,rfl,rfl,rfl⟩
  ·rw[if_neg D]at h
   cases h;exact⟨rfl,rfl,rfl,rfl⟩
 len {c} h:=IZ b (c:=WB c) h
theorem OW {c c':CR} {d:Int} (h:fixC c d=some c') (hy:2<=c.y) (Z:before c.y<=NA c.y c.m d):c'={c with y:=c'.y,m:=c'.m,d:=c'.d}/\(2<=c'.y/\c'.y<=9999)/\(1<=c'.m/\c'.m<=12)/\(1<=c'.d/\c'.d<=31)/\c'.d<=fB c'.y c'.m/\NA c'.y c'.m c'.d=NA c.y c.m d:=by
 unfold fixC at h
 split at h
 ·cases h
 ·rename_i hn
  cases h
  have h3:=rI Z
  have h4:=OI (lp (oA (NA c.y c.m d))) (idxOf (NA c.y c.m d))
  have h5:=mM (NA c.y c.m d)
  have h6:= @OG (oA (NA c.y c.m d)) (KB (NA c.y c.m d))
  exact⟨rfl,⟨by show 2<=oA _;omega,by show oA _<=9999;omega⟩,h4,⟨h5.1,by show JC _<=31;omega⟩,h5.2,iP _⟩
theorem ed {c:CR} {d:Int} (h:fixC c d=none):before 10000<=NA c.y c.m d:=by
 unfold fixC at h
 split at h
 ·rename_i hn
  have D:=(vL (NA c.y c.m d)).1
  have h2:=VN (show 10000<=oA (NA c.y c.m d)by omega)
  omega
 ·cases h
theorem PW {a b:CR} {d d':Int} (D:a.y=b.y) (h2:a.m=b.m) (hd:d=d') (h3:WB a=WB b):(fixC a d).map WB=(fixC b d').map WB:=by
 have h3:CR.mk _ _ _ _ _ _ _ _ _ _ _ _ _ _=CR.mk _ _ _ _ _ _ _ _ _ _ _ _ _ _:=h3
 simp only[CR.mk.injEq]at h3
 subst hd
 unfold fixC
 rw[D,h2]
 split<;>simp[WB,h3]
theorem QW {c c':CR} {d:Int} (h:fixC c d=some c'):c'.st=c.st/\c'.so=c.so/\c'.sl=c.sl/\c'.total=c.total:=by
 unfold fixC at h
 split at h
 ·cases h
 ·cases h;exact⟨rfl,rfl,rfl,rfl⟩
theorem zI {c:CR} (h:LQ c) (hd:c.d<=fB c.y c.m):oA (NA c.y c.m c.d)=c.y/\before c.y<=NA c.y c.m c.d/\NA c.y c.m c.d<before 10000/\KD c.y c.m c.d=NA c.y c.m c.d/\idxOf (NA c.y c.m c.d)=NA c.y c.m c.d-before c.y:=by
 obtain⟨d1,d2,d3,d4⟩:=dN h.m ⟨h.d.1,hd⟩
 have h2:=vL (NA c.y c.m c.d)
 rw[d1]at h2
 have h3:=VN (show c.y+1<=10000 by have:=h.y;omega)
 exact⟨d1,h2.1,O,XK h.m,by unfold idxOf;rw[d1]⟩
theorem An {c c':CR} (D:NA c.y c.m c.d<before 10000) (h2:NA c.y c.m c.d<NA c'.y c'.m c'.d):SG c'<SG c:=by
 have:before 10000=3652059:=by decide
 unfold SG;omega
theorem O4 (b:yJ r W T) (hf:W.BA=3):nO vM r (AM W T) (yI W) λk c=>(LQ c/\c.d<=fB c.y c.m)/\c.ts=T/\NA c.y c.m c.d=W.GA/86400+(k:Int)*W.IA:=by
 have hp:∀k:Nat,NC W k=(W.GA/86400+(k:Int)*W.IA,W.GA/86400+(k:Int)*W.IA,decide (W.GA/86400+(k:Int)*W.IA<before 10000)):=λk=>by
  unfold NC;simp only;rw[if_neg O,if_neg O,if_neg O]
 have KG:r.BA=3:=by rw[b.o.BA];exact hf
 refine HZ b ?_ ?_ ?_ ?_
 ·rintro k c ⟨⟨D,hd⟩,h2,h3⟩
  have hy:=D.y
  obtain⟨n1,n2,n3,n4,n5⟩:=zI D hd
  have hx:=qJ (NA c.y c.m c.d)
  rw[n1,n5]at hx
  have ZD:YB r c=((NA c.y c.m c.d-before c.y).toNat,(NA c.y c.m c.d-before c.y).toNat+1):=by unfold YB;rw[if_neg O,if_neg O,if_neg O,n4,n5]
  refine⟨by rw[hp,<-h3];show 0<=NA c.y c.m c.d;unfold before at n2;omega,by rw[hp,<-h3];exact decide_eq_true n3,?_⟩
  rw[round_eq b h2 (by rw[ZD];dsimp only;omega) (λi ha hi=>by
   rw[ZD]at ha hi;dsimp only at ha hi
   exact JZ b D O (λh=>by omega))]
  unfold zT
  rw[hp,<-h3,ZD]
  dsimp only
  rw[show before c.y+(((NA c.y c.m c.d-before c.y).toNat:Nat):Int)=NA c.y c.m c.d by omega,show(NA c.y c.m c.d-before c.y).toNat+1- (NA c.y c.m c.d-before c.y).toNat=(NA c.y c.m c.d+1-NA c.y c.m c.d).toNat by omega]
 ·intro k j bd
  rw[hp,hp]
  have:(k:Int)*W.IA<=(j:Int)*W.IA:=Int.mul_le_mul_of_nonneg_right O (by have:=b.EA;omega)
  show W.GA/86400+(k:Int)*W.IA<=W.GA/86400+(j:Int)*W.IA
  omega
 ·rintro k c c' ⟨⟨D,hd⟩,h2,h3⟩ hn
  have hc:=sO r D
  have hi:=b.EA
  have hy:=D.y
  obtain⟨n1,n2,n3,n4,n5⟩:=zI D hd
  have OD:NA c.y c.m (c.d+r.EA)=NA c.y c.m c.d+W.IA:=by rw[b.o.EA];unfold NA;omega
  have hn:fixC (rO r c) (c.d+r.EA)=some c':=hn
  obtain⟨q1,q2,q3,q4,q5,q6⟩:=OW hn hy.1 (by show before c.y<=NA c.y c.m (c.d+r.EA);rw[OD];omega)
  have q6:NA c'.y c'.m c'.d=NA c.y c.m (c.d+r.EA):=q6
  rw[q1]
  exact⟨rfl,⟨⟨q2,q3,q4,D.hh,D.mi,D.s,D.wd,D.ts,hc⟩,q5⟩,h2,by show NA c'.y c'.m c'.d=_;rw[q6,OD,h3,Int.natCast_add,Int.add_mul];simp;omega⟩
 ·rintro k c ⟨⟨D,hd⟩,h2,h3⟩ hn
  have OD:NA c.y c.m (c.d+r.EA)=NA c.y c.m c.d+W.IA:=by rw[b.o.EA];unfold NA;omega
  have hn:fixC (rO r c) (c.d+r.EA)=none:=hn
  have q:=ed hn
  have q:before 10000<=NA c.y c.m (c.d+r.EA):=q
  rw[hp,Int.natCast_add,Int.add_mul]
  exact decide_eq_false eA
theorem P4 (b:yJ r W T):xI vM r (λc=>LQ c/\c.d<=fB c.y c.m) SG where
 step {c c'} h hn:=by
  obtain⟨h,hd⟩:=h
  have hc:=sO r h
  have hi:=b.EA
  obtain⟨n1,n2,n3,n4,n5⟩:=zI h hd
  have n2:before c.y<=NA c.y c.m c.d:=n2
  have n3:NA c.y c.m c.d<before 10000:=n3
  have OD:NA c.y c.m (c.d+r.EA)=NA c.y c.m c.d+W.IA:=by rw[b.o.EA];unfold NA;omega
  have hn:fixC (rO r c) (c.d+r.EA)=some c':=hn
  obtain⟨q1,q2,q3,q4,q5,q6⟩:=OW hn h.y.1 (by show before c.y<=NA c.y c.m (c.d+r.EA);rw[OD];omega)
  have q6:NA c'.y c'.m c'.d=NA c.y c.m (c.d+r.EA):=q6
  refine⟨by rw[q1];exact⟨⟨q2,q3,q4,h.hh,h.mi,h.s,h.wd,h.ts,hc⟩,q5⟩,?_⟩
  exact An (c:=WB c) (c':=WB c') n3 (by show NA c.y c.m c.d<NA c'.y c'.m c'.d;omega)
 pos {c} h:=by
  obtain⟨n1,n2,n3,n4,n5⟩:=zI h.1 h.2
  have n3:NA c.y c.m c.d<before 10000:=n3
  have:before 10000=3652059:=by decide
  show 1<=(4000000-NA c.y c.m c.d).toNat;omega
 eqv c:=PW rfl rfl rfl rfl
 eR {c c'} h:=QW h
 len {c} h:=IZ b (c:=WB c) h.1
end
theorem Bn (W:MA) (T:List Int) (f:Int) (a:Nat):∀b:Nat,pF W T f (a+b)=pF W T f a++pF W T (f+a) b
 |0=>by simp[pF]
 |b+1=>by
  rw[<-Nat.add_assoc,Pd,Bn W T f a b,Pd,List.append_assoc,show f+((a+b:Nat):Int)=f+(a:Int)+(b:Int)by omega]
theorem Cn {dt XA:Int} (h:dt<=XA):∀(sB:List Int) (B E:List Int) (c:Int),(∀t∈sB,t<dt)->zE dt XA (sB++B) E c=zE dt XA B E c
 |[],B,E,c,_=>rfl
 |t::sB,B,E,c,hA=>by
  have ht:=hA t List.mem_cons_self
  rw[List.cons_append]
  conv=>lhs;unfold zE
  rw[if_neg O,if_pos ht]
  exact Cn h sB B E c λu hu=>hA u (List.mem_cons_of_mem _ hu)
section
variable {r:RR} {W:MA} {T:List Int}
theorem gd {r:RR} {c:CR} (h:0<=c.wd/\c.wd<=6) (hw:0<=r.wk/\r.wk<=6):(if r.wk>c.wd then c.d+(-(c.wd+1+(6-r.wk))+r.EA*7)else c.d+(-(c.wd-r.wk)+r.EA*7))=c.d- (c.wd-r.wk+7)%7+7*r.EA:=by
 split<;>omega
theorem Q4 (b:yJ r W T) (hf:W.BA=2) (k:Nat):NC W k=(W.GA/86400- (W.GA/86400%7-W.HB+7)%7+7*((k:Int)*W.IA),W.GA/86400- (W.GA/86400%7-W.HB+7)%7+7*((k:Int)*W.IA)+6,decide (W.GA/86400- (W.GA/86400%7-W.HB+7)%7+7*((k:Int)*W.IA)<before 10000)):=by
 unfold NC;simp only;rw[if_neg O,if_neg O,if_pos hf,Int.mul_assoc]
theorem S4 (b:yJ r W T) (hf:W.BA=2) (uF:W.OB=[]\/W.GA/86400%7=W.HB):nO ML r (AM W T) (yI W) λk c=>(LQ c/\c.d<=fB c.y c.m)/\c.ts=T/\c.wd=NA c.y c.m c.d%7/\
  NA c.y c.m c.d=if k=0 then W.GA/86400 else W.GA/86400- (W.GA/86400%7-W.HB+7)%7+7*((k:Int)*W.IA):=by
 have hp:=Q4 b hf
 have KG:r.BA=2:=by rw[b.o.BA];exact hf
 have oE:=b.dk.wk
 have IC:=b.GA
 obtain⟨s,hs⟩:∃s,s=W.GA/86400:=⟨_,rfl⟩
 rw[<-hs]at uF
 simp only[<-hs]at hp⊢
 refine HZ b ?_ ?_ ?_ ?_
 ·rintro k c ⟨⟨D,hd⟩,h2,h3,h4⟩
  have hy:=D.y
  obtain⟨n1,n2,n3,n4,n5⟩:=zI D hd
  have hx:=qJ (NA c.y c.m c.d)
  rw[n1,n5]at hx
  obtain⟨N,hN⟩:∃N,N=NA c.y c.m c.d:=⟨_,rfl⟩
  obtain⟨q,hq⟩:∃q,q=(k:Int)*W.IA:=⟨_,rfl⟩
  have tO:0<=q:=by rw[hq];exact Int.mul_nonneg O (by have:=b.EA;omega)
  simp only[<-hN]at n1 n2 n3 n4 n5 hx h3 h4
  have hp:=hp k
  rw[<-hq]at hp h4
  obtain⟨f,T4⟩:∃f,f=s- (s%7-W.HB+7)%7+7*q:=⟨_,rfl⟩
  rw[<-T4]at hp h4
  have hNf:f=N- (N%7-W.HB+7)%7:=by
   split at h4
   ·rename_i kL
    have:q=0:=by rw[hq,kL];simp
    omega
   ·omega
  have U4:CG (before c.y%7).toNat (N-before c.y) r.wk=(6- (N%7-W.HB+7)%7+1).toNat:=by
   unfold CG sM;rw[b.o.wk];omega
  have ZD:YB r c=((N-before c.y).toNat,(N-before c.y).toNat+(6- (N%7-W.HB+7)%7+1).toNat):=by
   unfold YB;rw[if_neg O,if_neg O,if_pos KG,n4,n5,U4]
  have LZ:0<=f:=O
  refine⟨by rw[hp];exact LZ,by rw[hp];exact decide_eq_true O,?_⟩
  have hr:=round_eq b h2 (by rw[ZD];dsimp only;omega) (λi ha hi=>by
   rw[ZD]at ha hi;dsimp only at ha hi
   rcases(by omega:(i:Int)<365+lp c.y\/365+lp c.y<=(i:Int))with fA|IF
   ·exact JZ b D fA (λh=>by omega)
   ·exact P3 b.o b.dk hf IF O)
  rw[hr]
  unfold zT
  rw[hp,ZD]
  dsimp only
  rw[show before c.y+(((N-before c.y).toNat:Nat):Int)=N by omega,show(N-before c.y).toNat+(6- (N%7-W.HB+7)%7+1).toNat- (N-before c.y).toNat=(6- (N%7-W.HB+7)%7+1).toNat by omega]
  have hlen:(f+6+1-f).toNat=(N-f).toNat+(6- (N%7-W.HB+7)%7+1).toNat:=O
  rw[hlen,Bn,show f+(((N-f).toNat:Nat):Int)=N by omega]
  by_cases hz:(N-f).toNat=0
  ·rw[hz,show pF W T f 0=[]from rfl,List.nil_append]
  ·have kL:k=0:=by
    by_cases h:k=0
    ·exact h
    ·rw[if_neg h]at h4;omega
   rw[if_pos kL]at h4
   have Dn:W.OB=[]:=by
    rcases uF with h|h
    ·exact h
    ·exfalso;omega
   have ec:∀L:List Int,gE L W.OB=L:=λL=>by unfold gE;rw[if_pos Dn]
   rw[ec,ec]
   refine(Cn (by rw[b.o.dt,b.o.XA];exact b.XA) _ _ _ _ λt ht=> ?_).symm
   have:=(Od b.tok ht).2
   rw[b.o.dt];omega
 ·intro k j bd
  rw[hp,hp]
  have:(k:Int)*W.IA<=(j:Int)*W.IA:=Int.mul_le_mul_of_nonneg_right O (by have:=b.EA;omega)
  show s- (s%7-W.HB+7)%7+7*((k:Int)*W.IA)<=s- (s%7-W.HB+7)%7+7*((j:Int)*W.IA)
  omega
 ·rintro k c c' ⟨⟨D,hd⟩,h2,h3,h4⟩ hn
  have hc:=sO r D
  have hi:=b.EA
  have hy:=D.y
  obtain⟨n1,n2,n3,n4,n5⟩:=zI D hd
  have hn:fixC {rO r c with wd:=r.wk} (if r.wk>c.wd then c.d+(-(c.wd+1+(6-r.wk))+r.EA*7)else c.d+(-(c.wd-r.wk)+r.EA*7))=some c':=hn
  rw[gd D.wd (by rw[b.o.wk];exact oE),b.o.wk,b.o.EA]at hn
  have OD:NA c.y c.m (c.d- (c.wd-W.HB+7)%7+7*W.IA)=NA c.y c.m c.d- (c.wd-W.HB+7)%7+7*W.IA:=by unfold NA;omega
  obtain⟨q1,q2,q3,q4,q5,q6⟩:=OW hn hy.1 (by show before c.y<=NA c.y c.m (c.d- (c.wd-W.HB+7)%7+7*W.IA);rw[OD];omega)
  have q6:NA c'.y c'.m c'.d=NA c.y c.m (c.d- (c.wd-W.HB+7)%7+7*W.IA):=q6
  rw[OD]at q6
  have WK:((k+1:Nat):Int)*W.IA=(k:Int)*W.IA+W.IA:=by rw[Int.natCast_add,Int.add_mul];simp
  have RW:NA c'.y c'.m c'.d=s- (s%7-W.HB+7)%7+7*(((k+1:Nat):Int)*W.IA):=by
   rw[q6,WK]
   split at h4
   ·rename_i kL
    have:(k:Int)*W.IA=0:=by rw[kL];simp
    rw[this];omega
   ·omega
  rw[q1]
  exact⟨rfl,⟨⟨q2,q3,q4,D.hh,D.mi,D.s,oE,D.ts,hc⟩,q5⟩,h2,by show W.HB=NA c'.y c'.m c'.d%7;rw[RW];omega,by rw[if_neg (Nat.succ_ne_zero k)];exact RW⟩
 ·rintro k c ⟨⟨D,hd⟩,h2,h3,h4⟩ hn
  have hn:fixC {rO r c with wd:=r.wk} (if r.wk>c.wd then c.d+(-(c.wd+1+(6-r.wk))+r.EA*7)else c.d+(-(c.wd-r.wk)+r.EA*7))=none:=hn
  rw[gd D.wd (by rw[b.o.wk];exact oE),b.o.wk,b.o.EA]at hn
  have q:=ed hn
  have q:before 10000<=NA c.y c.m (c.d- (c.wd-W.HB+7)%7+7*W.IA):=q
  have OD:NA c.y c.m (c.d- (c.wd-W.HB+7)%7+7*W.IA)=NA c.y c.m c.d- (c.wd-W.HB+7)%7+7*W.IA:=by unfold NA;omega
  have WK:((k+1:Nat):Int)*W.IA=(k:Int)*W.IA+W.IA:=by rw[Int.natCast_add,Int.add_mul];simp
  rw[hp]
  refine decide_eq_false ?_
  rw[WK]
  rw[OD]at q
  split at h4
  ·rename_i kL
   have:(k:Int)*W.IA=0:=by rw[kL];simp
   rw[this];omega
  ·omega
theorem V4 (b:yJ r W T):xI ML r (λc=>LQ c/\c.d<=fB c.y c.m) SG where
 step {c c'} h hn:=by
  obtain⟨h,hd⟩:=h
  have hc:=sO r h
  have hi:=b.EA
  have oE:=b.dk.wk
  obtain⟨n1,n2,n3,n4,n5⟩:=zI h hd
  have n2:before c.y<=NA c.y c.m c.d:=n2
  have n3:NA c.y c.m c.d<before 10000:=n3
  have hn:fixC {rO r c with wd:=r.wk} (if r.wk>c.wd then c.d+(-(c.wd+1+(6-r.wk))+r.EA*7)else c.d+(-(c.wd-r.wk)+r.EA*7))=some c':=hn
  rw[gd (c:=c) h.wd (by rw[b.o.wk];exact oE),b.o.wk,b.o.EA]at hn
  have OD:NA c.y c.m (c.d- (c.wd-W.HB+7)%7+7*W.IA)=NA c.y c.m c.d- (c.wd-W.HB+7)%7+7*W.IA:=by unfold NA;omega
  obtain⟨q1,q2,q3,q4,q5,q6⟩:=OW hn h.y.1 (by show before c.y<=NA c.y c.m (c.d- (c.wd-W.HB+7)%7+7*W.IA);rw[OD];omega)
  have q6:NA c'.y c'.m c'.d=NA c.y c.m (c.d- (c.wd-W.HB+7)%7+7*W.IA):=q6
  refine⟨by rw[q1];exact⟨⟨q2,q3,q4,h.hh,h.mi,h.s,oE,h.ts,hc⟩,q5⟩,?_⟩
  exact An (c:=WB c) (c':=WB c') n3 (by show NA c.y c.m c.d<NA c'.y c'.m c'.d;omega)
 pos {c} h:=by
  obtain⟨n1,n2,n3,n4,n5⟩:=zI h.1 h.2
  have n3:NA c.y c.m c.d<before 10000:=n3
  have:before 10000=3652059:=by decide
  show 1<=(4000000-NA c.y c.m c.d).toNat;omega
 eqv c:=PW rfl rfl rfl rfl
 eR {c c'} h:=QW (c:={c with wd:=r.wk}) h
 len {c} h:=IZ b (c:=WB c) h.1
end
theorem least {P:Nat->Prop}:∀n:Nat,P n->∃m,m<=n/\P m/\∀j,j<m->¬P j:=by
 intro n
 induction n using Nat.strongRecOn with
 |_ n ih=>
  intro h
  by_cases h2:∃j,j<n/\P j
  ·obtain⟨j,h3,h4⟩:=h2
   obtain⟨m,h5,h6,h7⟩:=ih j h3 h4
   exact⟨m,O,h6,h7⟩
  ·exact⟨n,Nat.le_refl n,h,λj hj hp=>h2 ⟨j,hj,hp⟩⟩
theorem Gn {p:Int->Bool} {EA:Int}:∀{k:Nat} {t R:Int},OE p EA k t=some R->∃j:Nat,1<=j/\R=t+(j:Int)*EA/\p R=true/\∀i:Nat,1<=i->i<j->p (t+(i:Int)*EA)=false
 |0,t,R,h=>by cases h
 |k+1,t,R,h=>by
  unfold OE at h
  split at h
  ·rename_i hp
   cases h
   exact⟨1,Nat.le_refl 1,by simp,hp,λi D h2=>by omega⟩
  ·rename_i hp
   obtain⟨j,D,h2,h3,h4⟩:=Gn h
   have e:∀i:Nat,t+((i+1:Nat):Int)*EA=t+EA+(i:Int)*EA:=λi=>by rw[Int.natCast_add,Int.add_mul];simp;omega
   refine⟨j+1,O,by rw[e];exact h2,h3,λi wP vC=> ?_⟩
   obtain⟨i',rfl⟩:∃i',i=i'+1:=⟨i-1,O⟩
   rw[e]
   by_cases hz:i'=0
   ·subst hz;simpa using hp
   ·exact h4 i' O O
def zG (W:MA) (tA t0:Int) (p:Int->Bool) (fill:Int->List Int) (k:Nat):List Int×Bool:=
 if(t0+(k:Int)*W.IA)/tA<before 10000 then(if stays W ((t0+(k:Int)*W.IA)/tA)&&p ((t0+(k:Int)*W.IA)%tA)then(fill ((t0+(k:Int)*W.IA)%tA)).map (λt=>(t0+(k:Int)*W.IA)/tA*86400+t)else[],true)else([],false)
structure uO (r:RR) (W:MA):Prop where
 o:Of r W
 dk:wM W
 BA:4<=W.BA
 sp:W.OB=[]
 EA:1<=W.IA/\W.IA<=1000
 GA:31536000<=W.GA/\W.GA<before 9001*86400
 XA:W.GA<=W.xB
 EB:0<=W.count/\W.count<=1000
structure iR (r:RR) (QB:RR->CR->Option CR) (tA:Nat) (p:Int->Bool) (pos:CR->Int) (set:CR->Int->CR) (fill:Int->List Int):Prop where
 fU:1<=(tA:Int)
 MZ:∀c,QB r (rO r c)=match OE p r.EA tA (pos c+(if rF r c=true then((tA:Int)-1-pos c)/r.EA*r.EA else 0))with
  |none=>none
  |some R=>fixC (set (rO r c) R) (c.d+R/(tA:Int))
 BM:∀c,LQ c->0<=pos c/\pos c<tA
 fF:∀c R,(set c R).y=c.y/\(set c R).m=c.m/\(set c R).d=c.d/\(set c R).wd=c.wd/\(set c R).count=c.count/\(set c R).st=c.st/\(set c R).so=c.so/\(set c R).sl=c.sl/\(set c R).total=c.total
 fT:∀c R,(0<=(set c R).hh/\(set c R).hh<=23)/\(LQ c->0<=(set c R).mi/\(set c R).mi<=59)/\(LQ c->0<=(set c R).s/\(set c R).s<=59)
 fP:∀c c' R,c'.hh=(set c R).hh->c'.mi=(set c R).mi->c'.s=(set c R).s->pos c'=R%(tA:Int)
 fS:∀c R,(set c R).ts=fill (R%(tA:Int))
 pN:∀t,p t=p (t%(tA:Int))
 jR:∀t,0<=t->t<(tA:Int)->(fill t).length<=100/\∀u∈fill t,0<=u/\u<86400
 NZ:∀c,(QB r (rO r c)).map WB=(QB r (rO r (WB c))).map WB
 OZ:∀c c',QB r c=some c'->c'.st=c.st/\c'.so=c.so/\c'.sl=c.sl/\c'.total=c.total
section
variable {r:RR} {W:MA} {QB:RR->CR->Option CR} {tA:Nat} {p:Int->Bool} {pos:CR->Int} {set:CR->Int->CR} {fill:Int->List Int}
theorem Hn (b:uO r W) {c:CR} (D:LQ c) (hd:c.d<=fB c.y c.m):YB r c=((NA c.y c.m c.d-before c.y).toNat,(NA c.y c.m c.d-before c.y).toNat+1):=by
 obtain⟨n1,n2,n3,n4,n5⟩:=zI D hd
 have:=b.BA
 have:=b.o.BA
 unfold YB;rw[if_neg O,if_neg O,if_neg O,n4,n5]
theorem Jn (b:uO r W) {c:CR} (D:LQ c) (hd:c.d<=fB c.y c.m):jF r (QA r c) (NA c.y c.m c.d-before c.y).toNat= !stays W (NA c.y c.m c.d):=by
 obtain⟨n1,n2,n3,n4,n5⟩:=zI D hd
 have hx:=qJ (NA c.y c.m c.d)
 rw[n1,n5]at hx
 have:=b.BA
 have h:=Km (i:=(NA c.y c.m c.d-before c.y).toNat) b.o b.dk (c:=c) O (by have:=D.y;omega) (vm (by have:=D.y;omega)) (λh=>by omega)
 rwa [show before c.y+(((NA c.y c.m c.d-before c.y).toNat:Nat):Int)=NA c.y c.m c.d by omega]at h
theorem X4 (b:uO r W) {c:CR} (D:LQ c) (hd:c.d<=fB c.y c.m):rE r c=zE r.dt r.XA (DI W c.ts (NA c.y c.m c.d)) [] c.count:=by
 obtain⟨n1,n2,n3,n4,n5⟩:=zI D hd
 have ZD:=Hn b D hd
 have hf:=Lm (r:=r) (W:=W) (c:=c) (by rw[ZD];dsimp only;omega) (λi ha hi=>by
  rw[ZD]at ha hi;dsimp only at ha hi
  have:=Jn b D hd
  rw[show i=(NA c.y c.m c.d-before c.y).toNat by omega,this,show before c.y+(((NA c.y c.m c.d-before c.y).toNat:Nat):Int)=NA c.y c.m c.d by omega])
 unfold rE TH
 rw[if_neg (λh=>h.1 (by rw[b.o.sp];exact b.sp)),hf,ZD]
 dsimp only
 rw[show before c.y+(((NA c.y c.m c.d-before c.y).toNat:Nat):Int)=NA c.y c.m c.d by omega,Nat.add_sub_cancel_left]
 rw[show pF W c.ts (NA c.y c.m c.d) 1=DI W c.ts (NA c.y c.m c.d)by simp[pF]]
theorem Y4 (b:uO r W) {c:CR} (D:LQ c) (hd:c.d<=fB c.y c.m):rF r c= !stays W (NA c.y c.m c.d):=by
 rw[<-Jn b D hd]
 have ZD:=Hn b D hd
 show tM r (QA r (oF r c)) (SD (YB r c).1 (YB r c).2) (SD (YB r c).1 (YB r c).2).length=_
 rw[ZD]
 unfold tM SD
 rw[List.take_length]
 dsimp only
 rw[Nat.add_sub_cancel_left]
 show(jF r (QA r (oF r c)) (((NA c.y c.m c.d-before c.y).toNat:Nat):Int).toNat||false)=_
 rw[Int.toNat_natCast,Bool.or_false]
 rfl
theorem jd (b:uO r W) (u:iR r QB tA p pos set fill) {c:CR} (D:LQ c) (hd:c.d<=fB c.y c.m) (hs:RF p r.EA tA (pos c)):
  ∃(R:Int) (n:Nat),1<=n/\QB r (rO r c)=fixC (set (rO r c) R) (c.d+R/(tA:Int))/\R=pos c+(n:Int)*W.IA/\p R=true/\
   ∀i:Nat,1<=i->i<n->(stays W (NA c.y c.m c.d)=false/\pos c+(i:Int)*W.IA<tA)\/p (pos c+(i:Int)*W.IA)=false:=by
 have hi:=b.EA
 have hp:=u.BM c D
 have Z4:=Y4 b D hd
 have EZ:∃q0:Nat,(if rF r c=true then((tA:Int)-1-pos c)/r.EA*r.EA else 0)=(q0:Int)*W.IA/\(0<q0->stays W (NA c.y c.m c.d)=false/\pos c+(q0:Int)*W.IA<tA):=by
  by_cases h:rF r c=true
  ·rw[if_pos h]
   have e1:0<=((tA:Int)-1-pos c)/r.EA:=Int.ediv_nonneg O (by rw[b.o.EA];omega)
   have e2:=Int.ediv_mul_le ((tA:Int)-1-pos c) (show W.IA≠0 by omega)
   refine⟨(((tA:Int)-1-pos c)/r.EA).toNat,by rw[Int.toNat_of_nonneg e1,b.o.EA],λ_=> ?_⟩
   rw[Int.toNat_of_nonneg e1,b.o.EA]
   rw[Z4]at h
   exact⟨by simpa using h,O⟩
  ·rw[if_neg h];exact⟨0,by simp,λh=>by omega⟩
 obtain⟨q0,tO,WK⟩:=EZ
 have CN:=hs q0
 rw[b.o.EA]at CN
 obtain⟨R,hR⟩:=Option.isSome_iff_exists.1 CN
 obtain⟨j0,UJ,vB,qF,j4⟩:=Gn hR
 refine⟨R,q0+j0,O,?_,by rw[vB,Int.natCast_add,Int.add_mul];omega,qF,λi wP vC=> ?_⟩
 ·rw[u.MZ c,tO,b.o.EA,hR]
 ·rcases Nat.lt_or_ge q0 i with h|h
  ·right
   have:=j4 (i-q0) O O
   rwa [show pos c+(q0:Int)*W.IA+((i-q0:Nat):Int)*W.IA=pos c+(i:Int)*W.IA by
    have e:((i:Nat):Int)=(q0:Int)+((i-q0:Nat):Int):=O
    rw[e,Int.add_mul];omega]at this
  ·left
   obtain⟨h2,h3⟩:=WK O
   have:(i:Int)*W.IA<=(q0:Int)*W.IA:=Int.mul_le_mul_of_nonneg_right O O
   exact⟨h2,O⟩
theorem Kn (b:uO r W) (u:iR r QB tA p pos set fill) {c c':CR} {R:Int} {n:Nat} (D:LQ c) (hd:c.d<=fB c.y c.m) (hs:RF p r.EA tA (pos c)) (hR:R=pos c+(n:Int)*W.IA) (hn:fixC (set (rO r c) R) (c.d+R/(tA:Int))=some c'):
  (LQ c'/\c'.d<=fB c'.y c'.m/\RF p r.EA tA (pos c'))/\NA c'.y c'.m c'.d=NA c.y c.m c.d+R/(tA:Int)/\pos c'=R%(tA:Int)/\c'.count=(rE r c).2.1/\c'.ts=fill (R%(tA:Int)):=by
 obtain⟨n1,n2,n3,n4,n5⟩:=zI D hd
 have hi:=b.EA
 have hp:=u.BM c D
 have hU:=u.fU
 have CZ:0<=(n:Int)*W.IA:=Int.mul_nonneg O O
 have yP:0<=R/(tA:Int):=Int.ediv_nonneg O O
 have Ln:0<=R%(tA:Int)/\R%(tA:Int)<tA:=⟨Int.emod_nonneg _ O,Int.emod_lt_of_pos _ O⟩
 obtain⟨f1,f2,f3,f4,f5,_⟩:=u.fF (rO r c) R
 have hc:=sO r D
 have OD:NA c.y c.m (c.d+R/(tA:Int))=NA c.y c.m c.d+R/(tA:Int):=by unfold NA;omega
 have f1:(set (rO r c) R).y=c.y:=f1
 have f2:(set (rO r c) R).m=c.m:=f2
 obtain⟨q1,q2,q3,q4,q5,q6⟩:=OW hn (by rw[f1];exact D.y.1) (by rw[f1,f2,OD];omega)
 rw[f1,f2,OD]at q6
 have t1:=u.fT (rO r c) R
 have JG:LQ (rO r c):=⟨D.y,D.m,D.d,D.hh,D.mi,D.s,D.wd,D.ts,hc⟩
 have HE:pos c'=R%(tA:Int):=u.fP (rO r c) c' R (by rw[q1]) (by rw[q1]) (by rw[q1])
 have sD:c'.ts=fill (R%(tA:Int)):=by rw[q1];exact u.fS _ _
 refine⟨⟨⟨q2,q3,q4,by rw[q1];exact t1.1,by rw[q1];exact t1.2.1 JG,by rw[q1];exact t1.2.2 JG,by rw[q1];show 0<=(set (rO r c) R).wd/\(set (rO r c) R).wd<=6;rw[f4];exact D.wd,by rw[sD];exact u.jR _ Ln.1 Ln.2,by rw[q1];show 0<=(set (rO r c) R).count/\(set (rO r c) R).count<=1000;rw[f5];exact hc⟩,q5,?_⟩,q6,HE,by rw[q1];exact f5,sD⟩
 rw[HE,hR,<-b.o.EA]
 have kd:∀t,p (t+(tA:Int))=p t:=λt=>by rw[u.pN (t+tA),u.pN t,Int.add_emod_right]
 exact RF.next O kd hp.1 hs n (by rw[b.o.EA];omega)
theorem ld (b:uO r W) (u:iR r QB tA p pos set fill) (t0:Int) (iG:0<=t0):nO QB r (zG W tA t0 p fill) (λ_=>false) λk c=>(LQ c/\c.d<=fB c.y c.m/\RF p r.EA tA (pos c))/\(tA:Int)*NA c.y c.m c.d+pos c=t0+(k:Int)*W.IA/\c.ts=(if p (pos c)then fill (pos c)else[]):=by
 have hU:=u.fU
 have qT:∀{N q t:Int},(tA:Int)*N+q=t->0<=q->q<tA->t/tA=N/\t%tA=q:=λ{N q t} h D h2=>by
  rw[<-h,Int.add_comm]
  exact⟨by rw[Int.add_mul_ediv_left _ _ O,Int.ediv_eq_zero_of_lt D h2];omega,by rw[Int.add_mul_emod_self_left,Int.emod_eq_of_lt D h2]⟩
 have BW:∀{k:Nat} {c:CR} {n:Nat},LQ c->c.d<=fB c.y c.m->(tA:Int)*NA c.y c.m c.d+pos c=t0+(k:Int)*W.IA->
   (∀i:Nat,1<=i->i<n->(stays W (NA c.y c.m c.d)=false/\pos c+(i:Int)*W.IA<tA)\/p (pos c+(i:Int)*W.IA)=false)->
   ∀j,k<j->j<k+n->(t0+(j:Int)*W.IA)/tA<before 10000->zG W tA t0 p fill j=([],true):=λ{k c n} D hd h3 hw j UJ vB dB=>by
  have hp:=u.BM c D
  have hi:=b.EA
  have hiI:0<=((j-k:Nat):Int)*W.IA:=Int.mul_nonneg O O
  have e:t0+(j:Int)*W.IA=(tA:Int)*NA c.y c.m c.d+(pos c+((j-k:Nat):Int)*W.IA):=by
   have e2:(j:Int)=(k:Int)+((j-k:Nat):Int):=O
   rw[e2,Int.add_mul];omega
  unfold zG
  rw[if_pos dB]
  rcases hw (j-k) O O with⟨h4,h5⟩|h4
  ·obtain⟨d1,d2⟩:=qT e.symm O h5
   rw[d1,h4];rfl
  ·have:(t0+(j:Int)*W.IA)%tA=(pos c+((j-k:Nat):Int)*W.IA)%tA:=by rw[e,Int.add_comm,Int.add_mul_emod_self_left]
   rw[this,<-u.pN,h4,Bool.and_false];rfl
 refine⟨?_,?_,?_,?_,?_,?_⟩
 ·rintro k c ⟨⟨D,hd,hs⟩,h3,h4⟩
  obtain⟨n1,n2,n3,n4,n5⟩:=zI D hd
  obtain⟨d1,d2⟩:=qT h3 (u.BM c D).1 (u.BM c D).2
  unfold zG;rw[d1,if_pos n3]
 ·rintro k c ⟨⟨D,hd,hs⟩,h3,h4⟩ _
  obtain⟨n1,n2,n3,n4,n5⟩:=zI D hd
  obtain⟨d1,d2⟩:=qT h3 (u.BM c D).1 (u.BM c D).2
  rw[X4 b D hd]
  unfold zG DI;rw[d1,d2,if_pos n3,h4]
  cases stays W (NA c.y c.m c.d)<;>cases p (pos c)<;>simp
 ·rintro k c c' ⟨⟨D,hd,hs⟩,h3,h4⟩ hn
  obtain⟨R,n,a1,a2,a3,a4,a5⟩:=jd b u D hd hs
  rw[a2]at hn
  obtain⟨l1,l2,l3,l4,l5⟩:=Kn b u D hd hs a3 hn
  obtain⟨m1,m2,m3,m4,m5⟩:=zI l1.1 l1.2.1
  have PZ:t0+((k+n:Nat):Int)*W.IA=(tA:Int)*NA c.y c.m c.d+R:=by rw[a3,Int.natCast_add,Int.add_mul];omega
  have o4:=Int.emod_add_mul_ediv R tA
  refine⟨l4,k+n,O,⟨l1,?_,?_⟩,λj UJ vB=>BW D hd h3 a5 j UJ vB ?_⟩
  ·rw[l2,l3,PZ,Int.mul_add];omega
  ·rw[l5,l3,<-u.pN,a4];rfl
  ·have hle:t0+(j:Int)*W.IA<=t0+((k+n:Nat):Int)*W.IA:=by
    have:(j:Int)*W.IA<=((k+n:Nat):Int)*W.IA:=Int.mul_le_mul_of_nonneg_right O (by have:=b.EA;omega)
    omega
   have:=Int.ediv_le_ediv (show(0:Int)<tA by omega) hle
   have e:(t0+((k+n:Nat):Int)*W.IA)/tA=NA c'.y c'.m c'.d:=by
    rw[PZ,l2,Int.add_comm,Int.add_mul_ediv_left _ _ O];omega
   omega
 ·rintro k c ⟨⟨D,hd,hs⟩,h3,h4⟩ hn
  obtain⟨R,n,a1,a2,a3,a4,a5⟩:=jd b u D hd hs
  rw[a2]at hn
  have Z:=ed hn
  obtain⟨f1,f2,f3,f4,f5,_⟩:=u.fF (rO r c) R
  have OD:NA c.y c.m (c.d+R/(tA:Int))=NA c.y c.m c.d+R/(tA:Int):=by unfold NA;omega
  rw[show(set (rO r c) R).y=c.y from f1,show(set (rO r c) R).m=c.m from f2,OD]at Z
  have PZ:t0+((k+n:Nat):Int)*W.IA=(tA:Int)*NA c.y c.m c.d+R:=by rw[a3,Int.natCast_add,Int.add_mul];omega
  have Vd:(zG W tA t0 p fill (k+n)).2=false:=by
   unfold zG
   rw[if_neg]
   rw[PZ,Int.add_comm,Int.add_mul_ediv_left _ _ O];omega
  obtain⟨k',g1,⟨g2,g3⟩,g4⟩:=least (P:=λj=>k<j/\(zG W tA t0 p fill j).2=false) (k+n) ⟨O,Vd⟩
  refine⟨k',g2,g3,λj UJ vB=>BW D hd h3 a5 j UJ O ?_⟩
  have:=g4 j vB
  by_cases fA:(t0+(j:Int)*W.IA)/tA<before 10000
  ·exact fA
  ·exact absurd ⟨UJ,by unfold zG;rw[if_neg fA]⟩ this
 ·intro k h;cases h
 ·intro k h;cases h
theorem od (b:uO r W) (u:iR r QB tA p pos set fill) (lim:CR->Nat) (zJ:∀c,lim c=((tA:Int)*4000000- ((tA:Int)*NA c.y c.m c.d+pos c)).toNat) (oN:∀c,pos (WB c)=pos c):xI QB r (λc=>LQ c/\c.d<=fB c.y c.m/\RF p r.EA tA (pos c)) lim where
 step {c c'} h hn:=by
  obtain⟨D,hd,hs⟩:=h
  have D:LQ c:=⟨D.y,D.m,D.d,D.hh,D.mi,D.s,D.wd,D.ts,D.count⟩
  have hd:c.d<=fB c.y c.m:=hd
  rw[oN]at hs
  obtain⟨R,n,a1,a2,a3,a4,a5⟩:=jd b u D hd hs
  rw[a2]at hn
  obtain⟨l1,l2,l3,l4,l5⟩:=Kn b u D hd hs a3 hn
  refine⟨⟨⟨l1.1.y,l1.1.m,l1.1.d,l1.1.hh,l1.1.mi,l1.1.s,l1.1.wd,l1.1.ts,l1.1.count⟩,l1.2.1,by rw[oN];exact l1.2.2⟩,?_⟩
  rw[zJ,zJ,oN,oN]
  show((tA:Int)*4000000- ((tA:Int)*NA c'.y c'.m c'.d+pos c')).toNat<((tA:Int)*4000000- ((tA:Int)*NA c.y c.m c.d+pos c)).toNat
  rw[l2,l3,Int.mul_add]
  have o4:=Int.emod_add_mul_ediv R tA
  have hi:=b.EA
  have hU:=u.fU
  obtain⟨n1,n2,n3,n4,n5⟩:=zI D hd
  have:before 10000=3652059:=by decide
  have x4:(tA:Int)*NA c.y c.m c.d<=(tA:Int)*3652058:=Int.mul_le_mul_of_nonneg_left O O
  have WV:=u.BM c D
  have hgt:pos c<R:=by
   have:(1:Int)*1<=(n:Int)*W.IA:=Int.mul_le_mul O hi.1 O O
   omega
  omega
 pos {c} h:=by
  obtain⟨D,hd,hs⟩:=h
  obtain⟨n1,n2,n3,n4,n5⟩:=zI D hd
  have n3:NA c.y c.m c.d<before 10000:=n3
  have:before 10000=3652059:=by decide
  have hU:=u.fU
  have WV:=u.BM _ D
  rw[oN]at WV
  rw[zJ,oN]
  show 1<=((tA:Int)*4000000- ((tA:Int)*NA c.y c.m c.d+pos c)).toNat
  have x4:(tA:Int)*NA c.y c.m c.d<=(tA:Int)*3652058:=Int.mul_le_mul_of_nonneg_left O O
  omega
 eqv:=u.NZ
 eR {c c'} h:=u.OZ c c' h
 len {c} h:=xm (c:=WB c) (by rw[b.o.sp,b.sp];simp) h.1
end
def kF (hs ms ss:List Int):List Int:=hs.flatMap λh=>ms.flatMap λm=>ss.map λs=>h*3600+m*60+s
theorem QZ {hs ms ss:List Int} {t:Int}:t∈kF hs ms ss↔∃h∈hs,∃m∈ms,∃s∈ss,t=h*3600+m*60+s:=by
 unfold kF
 simp only[List.mem_flatMap,List.mem_map]
 constructor
 ·rintro⟨h,D,m,h2,s,h3,rfl⟩;exact⟨h,D,m,h2,s,h3,rfl⟩
 ·rintro⟨h,D,m,h2,s,h3,rfl⟩;exact⟨h,D,m,h2,s,h3,rfl⟩
def zP (l:List Int):Prop:=∀m∈l,0<=m/\m<=59
theorem Mn {hs ms ss:List Int} (D:hs.Pairwise (·<·)) (h2:ms.Pairwise (·<·)) (h3:ss.Pairwise (·<·)) (hm:zP ms) (iB:zP ss):(kF hs ms ss).Pairwise (·<·):=by
 unfold kF
 rw[List.pairwise_flatMap]
 refine⟨λh _=> ?_,D.imp ?_⟩
 ·rw[List.pairwise_flatMap]
  refine⟨λm _=> ?_,h2.imp ?_⟩
  ·rw[List.pairwise_map];exact h3.imp λh=>by omega
  ·intro a b xD x hx y hy
   obtain⟨s,h4,rfl⟩:=List.mem_map.1 hx
   obtain⟨s',h5,rfl⟩:=List.mem_map.1 hy
   have:=iB s h4;have:=iB s' h5
   omega
 ·intro a b xD x hx y hy
  obtain⟨m,h6,hx⟩:=List.mem_flatMap.1 hx
  obtain⟨m',h7,hy⟩:=List.mem_flatMap.1 hy
  obtain⟨s,h4,rfl⟩:=List.mem_map.1 hx
  obtain⟨s',h5,rfl⟩:=List.mem_map.1 hy
  have:=iB s h4;have:=iB s' h5;have:=hm m h6;have:=hm m' h7
  omega
theorem A5 {hs ms ss:List Int} (D:hs.Nodup) (h2:ms.Nodup) (h3:ss.Nodup) (hm:zP ms) (iB:zP ss):(kF hs ms ss).Nodup:=by
 unfold kF List.Nodup
 rw[List.pairwise_flatMap]
 refine⟨λh _=> ?_,List.Pairwise.imp ?_ D⟩
 ·rw[List.pairwise_flatMap]
  refine⟨λm _=> ?_,List.Pairwise.imp ?_ h2⟩
  ·rw[List.pairwise_map];exact List.Pairwise.imp (λh=>by omega) h3
  ·intro a b xD x hx y hy
   obtain⟨s,h4,rfl⟩:=List.mem_map.1 hx
   obtain⟨s',h5,rfl⟩:=List.mem_map.1 hy
   have:=iB s h4;have:=iB s' h5
   omega
 ·intro a b xD x hx y hy
  obtain⟨m,h6,hx⟩:=List.mem_flatMap.1 hx
  obtain⟨m',h7,hy⟩:=List.mem_flatMap.1 hy
  obtain⟨s,h4,rfl⟩:=List.mem_map.1 hx
  obtain⟨s',h5,rfl⟩:=List.mem_map.1 hy
  have:=iB s h4;have:=iB s' h5;have:=hm m h6;have:=hm m' h7
  omega
theorem AU {l:List Int} (h:l.Nodup):(nB l).Pairwise (·<·):=by
 have D:=nc l
 have h2:=El h
 exact(List.pairwise_and_iff.2 ⟨D,h2⟩).imp λ⟨a,b⟩=>by omega
theorem B5 {L M:List Int} (D:L.Nodup) (h2:M.Pairwise (·<·)) (h:∀t,t∈L↔t∈M):YE L=M:=by
 have hp:L.Perm M:=(List.perm_ext_iff_of_nodup D (h2.imp λh=>by omega)).2 h
 refine jY ((List.mergeSort_perm _ _).trans hp) ?_ (h2.imp λh=>by omega)
 have:=List.pairwise_mergeSort (le:=λa b:Int=>decide (a<=b)) (λa b c D h2=>by simp at*;omega) (λa b=>by simp;omega) L
 exact this.imp λh=>by simpa using h
theorem pd {hs ms ss:List Int} (D:hs.Nodup) (h2:ms.Nodup) (h3:ss.Nodup) (hm:zP ms) (iB:zP ss):YE (kF hs ms ss)=kF (nB hs) (nB ms) (nB ss):=by
 refine B5 (A5 D h2 h3 hm iB) (Mn (AU D) (AU h2) (AU h3) (λm KZ=>hm m (QH.1 KZ)) (λm KZ=>iB m (QH.1 KZ))) λt=> ?_
 simp only[QZ,QH]
structure tH (W:MA):Prop where
 hn:W.SA.Nodup
 h:∀h∈W.SA,0<=h/\h<=23
 mn:W.PA.Nodup
 m:zP W.PA
 sn:W.RA.Nodup
 s:zP W.RA
 lh:W.SA.length<=12
 lm:W.PA.length<=12
 ls:W.RA.length<=12
 prod:W.PA.length*W.RA.length<=60
def VJ (W:MA):List Int:=kF (nB W.SA) (nB W.PA) (nB W.RA)
theorem C5 {W:MA} (k:tH W):LW (VJ W)where
 kY:=Mn (AU k.hn) (AU k.mn) (AU k.sn) (λm hm=>k.m m (QH.1 hm)) (λm hm=>k.s m (QH.1 hm))
 range t ht:=by
  obtain⟨h,D,m,h2,s,h3,rfl⟩:=QZ.1 ht
  have:=k.h h (QH.1 D);have:=k.m m (QH.1 h2);have:=k.s s (QH.1 h3)
  omega
theorem D5 (h:Int) (ms ss:List Int):AF (h*3600) ms ss=kF [h] ms ss:=by
 unfold kF AF oD;simp
theorem Nn {r:RR} {W:MA} (o:Of r W) (k:tH W) (h:Int):UI r h=kF [h] (nB W.PA) (nB W.RA):=by
 unfold UI
 rw[D5,o.bi,o.bs,pd (by simp) k.mn k.sn k.m k.s];rfl
theorem On {r:RR} {W:MA} (o:Of r W) (k:tH W) (h m:Int) (hm:0<=m/\m<=59):UH r h m=kF [h] [m] (nB W.RA):=by
 have e:oD (h*3600+m*60) r.bs=kF [h] [m] r.bs:=by unfold kF oD;simp
 unfold UH
 rw[e,o.bs,pd (by simp) (by simp) k.sn (λx hx=>by rw[List.mem_singleton]at hx;omega) k.s];rfl
theorem AQ (hs ms ss:List Int):(kF hs ms ss).length=hs.length*(ms.length*ss.length):=by
 unfold kF
 induction hs with
 |nil=>simp
 |cons a l ih=>
  rw[List.flatMap_cons,List.length_append,ih,List.length_cons,Nat.succ_mul,Om ss ms λm s=>a*3600+m*60+s];omega
theorem E5 (r:RR) {a b:CR} (hy:a.y=b.y) (hm:a.m=b.m) (i:Nat):jF r (QA r a) i=jF r (QA r b) i:=by unfold jF QA;simp only[hy,hm]
theorem F5 (r:RR) {a b:CR} (hy:a.y=b.y) (hm:a.m=b.m) (hd:a.d=b.d):YB r a=YB r b:=by unfold YB;rw[hy,hm,hd]
theorem Qn (r:RR) {a b:CR} (hy:a.y=b.y) (hm:a.m=b.m) (hd:a.d=b.d):rF r a=rF r b:=by
 have e:∀c:CR,rF r c=(SD (YB r c).1 (YB r c).2).any λp=>jF r (QA r (oF r c)) p.1.toNat:=λc=>by
  show tM r (QA r (oF r c)) (SD (YB r c).1 (YB r c).2) (SD (YB r c).1 (YB r c).2).length=_
  unfold tM;rw[List.take_length]
 rw[e,e,F5 r hy hm hd]
 congr 1
 funext p
 exact E5 r (a:=oF r a) (b:=oF r b) hy hm _
theorem td (r:RR) (c:CR):rF r (rO r c)=rF r c:=Qn r rfl rfl rfl
theorem ud (r:RR) (c:CR):rF r (WB c)=rF r c:=Qn r rfl rfl rfl
theorem vd (r:RR) (c:CR):cK r (rO r c)=if rF r c=true then c.hh+(23-c.hh)/r.EA*r.EA else c.hh:=by unfold cK;rw[td];rfl
theorem xd (r:RR) (c:CR):eK r (rO r c)=if rF r c=true then c.mi+(1439- (c.hh*60+c.mi))/r.EA*r.EA else c.mi:=by unfold eK;rw[td];rfl
theorem yd (r:RR) (c:CR):gK r (rO r c)=if rF r c=true then c.s+(86399- (c.hh*3600+c.mi*60+c.s))/r.EA*r.EA else c.s:=by unfold gK;rw[td];rfl
theorem uH {r:RR} {W:MA} (o:Of r W) (k:tH W):iR r dK 24 (pH r) (λc=>c.hh) (λc R=>{c with hh:=R%24,ts:=UI r (R%24)}) (UI r)where
 fU:=by decide
 MZ c:=by
  unfold dK
  have e:cK r (rO r c)=c.hh+(if rF r c=true then(((24:Nat):Int)-1-c.hh)/r.EA*r.EA else 0):=by
   rw[vd]
   cases rF r c with
   |true=>rfl
   |false=>rw[if_neg (by decide),if_neg (by decide),Int.add_zero]
  rw[e]
  generalize OE _ _ _ _=w
  cases w<;>rfl
 BM c h:=by have:=h.hh;show 0<=c.hh/\c.hh<24;omega
 fF c R:=⟨rfl,rfl,rfl,rfl,rfl,rfl,rfl,rfl,rfl⟩
 fT c R:=⟨by show 0<=R%24/\R%24<=23;omega,λh=>h.mi,λh=>h.s⟩
 fP c c' R D h2 h3:=D
 fS c R:=rfl
 pN t:=by unfold pH;rw[show t%((24:Nat):Int)%24=t%24 by omega]
 jR t D h2:=by
  rw[Nn o k]
  refine⟨?_,λu hu=> ?_⟩
  ·rw[AQ,uI,uI];have:=k.prod;simp;omega
  ·obtain⟨h,h3,m,h4,s,h5,rfl⟩:=QZ.1 hu
   rw[List.mem_singleton]at h3
   have:=k.m m (QH.1 h4);have:=k.s s (QH.1 h5)
   omega
 NZ c:=by
  have e2:cK r (rO r (WB c))=cK r (rO r c):=by rw[vd,vd,ud];rfl
  unfold dK
  rw[e2]
  cases OE (pH r) r.EA 24 (cK r (rO r c))with
  |none=>rfl
  |some R=>exact PW rfl rfl rfl rfl
 OZ c c' h:=by
  unfold dK at h
  split at h
  ·cases h
  ·rename_i R _;exact QW (c:={c with hh:=R%24,ts:=UI r (R%24)}) h
theorem uM {r:RR} {W:MA} (o:Of r W) (k:tH W):iR r fK 1440 (pM r) (λc=>60*c.hh+c.mi) (λc R=>{c with hh:=R/60%24,mi:=R%60,ts:=UH r (R/60%24) (R%60)}) (λt=>UH r (t/60%24) (t%60))where
 fU:=by decide
 MZ c:=by
  unfold fK
  have e:60*(rO r c).hh+eK r (rO r c)=60*c.hh+c.mi+(if rF r c=true then(((1440:Nat):Int)-1- (60*c.hh+c.mi))/r.EA*r.EA else 0):=by
   rw[xd]
   show 60*c.hh+_=_
   cases rF r c with
   |true=>rw[if_pos rfl,if_pos rfl,show 1439- (c.hh*60+c.mi)=((1440:Nat):Int)-1- (60*c.hh+c.mi)by omega];omega
   |false=>rw[if_neg (by decide),if_neg (by decide)];omega
  rw[e]
  generalize OE _ _ _ _=w
  cases w<;>rfl
 BM c h:=by have:=h.hh;have:=h.mi;show 0<=60*c.hh+c.mi/\60*c.hh+c.mi<1440;omega
 fF c R:=⟨rfl,rfl,rfl,rfl,rfl,rfl,rfl,rfl,rfl⟩
 fT c R:=⟨by show 0<=R/60%24/\R/60%24<=23;omega,λh=>by show 0<=R%60/\R%60<=59;omega,λh=>h.s⟩
 fP c c' R D h2 h3:=by rw[D,h2];show 60*(R/60%24)+R%60=R%1440;omega
 fS c R:=by
  show UH r (R/60%24) (R%60)=UH r (R%1440/60%24) (R%1440%60)
  rw[show R%1440/60%24=R/60%24 by omega,show R%1440%60=R%60 by omega]
 pN t:=by unfold pM;rw[show t%((1440:Nat):Int)/60%24=t/60%24 by omega,show t%((1440:Nat):Int)%60=t%60 by omega]
 jR t D h2:=by
  rw[On o k _ _ O]
  refine⟨?_,λu hu=> ?_⟩
  ·rw[AQ,uI];have:=k.ls;simp;omega
  ·obtain⟨h,h3,m,h4,s,h5,rfl⟩:=QZ.1 hu
   rw[List.mem_singleton]at h3 h4
   have:=k.s s (QH.1 h5)
   omega
 NZ c:=by
  have e2:eK r (rO r (WB c))=eK r (rO r c):=by rw[xd,xd,ud];rfl
  unfold fK
  rw[e2]
  rw[show(rO r (WB c)).hh=(rO r c).hh from rfl]
  cases OE (pM r) r.EA 1440 (60*(rO r c).hh+eK r (rO r c))with
  |none=>rfl
  |some R=>exact PW rfl rfl rfl rfl
 OZ c c' h:=by
  unfold fK at h
  split at h
  ·cases h
  ·rename_i R _;exact QW (c:={c with hh:=R/60%24,mi:=R%60,ts:=UH r (R/60%24) (R%60)}) h
theorem uS {r:RR} {W:MA} (o:Of r W) (k:tH W):iR r iK 86400 (pS r) (λc=>3600*c.hh+60*c.mi+c.s) (λc R=>{c with hh:=R/3600%24,mi:=R/60%60,s:=R%60,ts:=[(R/3600%24)*3600+(R/60%60)*60+(R%60)]}) (λt=>[(t/3600%24)*3600+(t/60%60)*60+(t%60)])where
 fU:=by decide
 MZ c:=by
  unfold iK
  have e:3600*(rO r c).hh+60*(rO r c).mi+gK r (rO r c)=3600*c.hh+60*c.mi+c.s+(if rF r c=true then(((86400:Nat):Int)-1- (3600*c.hh+60*c.mi+c.s))/r.EA*r.EA else 0):=by
   rw[yd]
   show 3600*c.hh+60*c.mi+_=_
   cases rF r c with
   |true=>rw[if_pos rfl,if_pos rfl,show 86399- (c.hh*3600+c.mi*60+c.s)=((86400:Nat):Int)-1- (3600*c.hh+60*c.mi+c.s)by omega];omega
   |false=>rw[if_neg (by decide),if_neg (by decide)];omega
  rw[e]
  generalize OE _ _ _ _=w
  cases w<;>rfl
 BM c h:=by have:=h.hh;have:=h.mi;have:=h.s;show 0<=3600*c.hh+60*c.mi+c.s/\3600*c.hh+60*c.mi+c.s<86400;omega
 fF c R:=⟨rfl,rfl,rfl,rfl,rfl,rfl,rfl,rfl,rfl⟩
 fT c R:=⟨by show 0<=R/3600%24/\R/3600%24<=23;omega,λh=>by show 0<=R/60%60/\R/60%60<=59;omega,λh=>by show 0<=R%60/\R%60<=59;omega⟩
 fP c c' R D h2 h3:=by rw[D,h2,h3];show 3600*(R/3600%24)+60*(R/60%60)+R%60=R%86400;omega
 fS c R:=by
  show[R/3600%24*3600+R/60%60*60+R%60]=[R%86400/3600%24*3600+R%86400/60%60*60+R%86400%60]
  congr 1;omega
 pN t:=by unfold pS;rw[show t%((86400:Nat):Int)/3600%24=t/3600%24 by omega,show t%((86400:Nat):Int)/60%60=t/60%60 by omega,show t%((86400:Nat):Int)%60=t%60 by omega]
 jR t D h2:=⟨by simp,λu hu=>by rw[List.mem_singleton]at hu;omega⟩
 NZ c:=by
  have e2:gK r (rO r (WB c))=gK r (rO r c):=by rw[yd,yd,ud];rfl
  unfold iK
  rw[e2]
  rw[show(rO r (WB c)).hh=(rO r c).hh from rfl,show(rO r (WB c)).mi=(rO r c).mi from rfl]
  cases OE (pS r) r.EA 86400 (3600*(rO r c).hh+60*(rO r c).mi+gK r (rO r c))with
  |none=>rfl
  |some R=>exact PW rfl rfl rfl rfl
 OZ c c' h:=by
  unfold iK at h
  split at h
  ·cases h
  ·rename_i R _;exact QW (c:={c with hh:=R/3600%24,mi:=R/60%60,s:=R%60,ts:=[(R/3600%24)*3600+(R/60%60)*60+(R%60)]}) h
def pE (f:Int):Int:=if f=5 then 60 else if f=6 then 1 else 3600
def vH (W:MA) (k:Nat):List Int×Bool:=
 let t:=W.GA/pE W.BA*pE W.BA+(k:Int)*W.IA*pE W.BA
 if t/86400>=before 10000 then([],false)
 else if stays W (t/86400)=false\/CC W.SA (t%86400/3600)=false then([],true)
 else((if W.BA=4 then nB W.PA else[t%86400/60%60]).flatMap λm=>((if W.BA<6 then nB W.RA else[t%86400%60]).filter λs=>CC W.PA m&&CC W.RA s).map λs=>t/86400*86400+t%86400/3600*3600+m*60+s,true)
def UG (W:MA) (k:Nat):List Int×Bool:=
 let p:=if W.BA<4 then(lK W (VJ W) k,(NC W k).2.2)else vH W k
 (if 2000<p.1.length then p.1 else gE p.1 W.OB,p.2)
theorem G5 {W:MA} (h:W.BA<4) (k:Nat):UG W k=AM W (VJ W) k:=by unfold UG AM;rw[if_pos h]
theorem BU (l:List Int) (x:Int):(((l.length:Int)==0)||l.contains x)=CC l x:=by unfold CC;cases l<;>simp;omega
theorem zd {l:List Int} {x:Int} (h:x∈l):CC l x=true:=by unfold CC;simp[h]
section
variable {r:RR} {W:MA}
theorem H5 (o:Of r W) (k:tH W) (hf:W.BA=4) (hs:W.OB=[]) (n:Nat):UG W n=zG W 24 (W.GA/3600) (pH r) (UI r) n:=by
 obtain⟨VB,hX⟩:∃VB,VB=W.GA/3600+(n:Int)*W.IA:=⟨_,rfl⟩
 have e0:W.GA/pE W.BA*pE W.BA+(n:Int)*W.IA*pE W.BA=VB*3600:=by
  unfold pE;rw[if_neg O,if_neg O,hX,Int.add_mul]
 have hi:vH W n=zG W 24 (W.GA/3600) (pH r) (UI r) n:=by
  unfold vH zG
  dsimp only
  rw[e0,<-hX,show VB*3600/86400=VB/24 by omega,show VB*3600%86400/3600=VB%24 by omega]
  by_cases D:VB/24<before 10000
  ·rw[if_neg O,if_pos D]
   have hp:pH r (VB%24)=CC W.SA (VB%24):=by unfold pH;rw[o.bh,BU,show VB%24%24=VB%24 by omega]
   rw[hp]
   cases stays W (VB/24)with
   |false=>rw[if_pos (.inl rfl)];rfl
   |true=>
    cases CC W.SA (VB%24)with
    |false=>rw[if_pos (.inr rfl)];rfl
    |true=>
     have g1:(if W.BA=4 then nB W.PA else[VB*3600%86400/60%60])=nB W.PA:=if_pos hf
     have g2:(if W.BA<6 then nB W.RA else[VB*3600%86400%60])=nB W.RA:=if_pos O
     rw[if_neg (by simp),g1,g2,Bool.and_self,if_pos rfl,Nn o k]
     congr 1
     unfold kF
     simp only[List.flatMap_cons,List.flatMap_nil,List.append_nil,List.map_flatMap]
     refine xT λm hm=> ?_
     have Ae:((nB W.RA).filter λs=>CC W.PA m&&CC W.RA s)=nB W.RA:=List.filter_eq_self.2 λs hs=>by
      rw[zd (QH.1 hm),zd (QH.1 hs)];rfl
     rw[Ae,List.map_map]
     exact List.map_congr_left λs _=>by show VB/24*86400+VB%24*3600+m*60+s=VB/24*86400+(VB%24*3600+m*60+s);omega
  ·rw[if_pos O,if_neg D]
 unfold UG
 rw[if_neg O]
 dsimp only
 rw[hi,hs]
 unfold gE
 rw[if_pos rfl]
 split<;>rfl
theorem I5 (o:Of r W) (k:tH W) (hf:W.BA=5) (hs:W.OB=[]) (n:Nat):UG W n=zG W 1440 (W.GA/60) (pM r) (λt=>UH r (t/60%24) (t%60)) n:=by
 obtain⟨VB,hX⟩:∃VB,VB=W.GA/60+(n:Int)*W.IA:=⟨_,rfl⟩
 have e0:W.GA/pE W.BA*pE W.BA+(n:Int)*W.IA*pE W.BA=VB*60:=by
  unfold pE;rw[if_pos hf,hX,Int.add_mul]
 have hi:vH W n=zG W 1440 (W.GA/60) (pM r) (λt=>UH r (t/60%24) (t%60)) n:=by
  unfold vH zG
  dsimp only
  rw[e0,<-hX,show VB*60/86400=VB/1440 by omega,show VB*60%86400/3600=VB/60%24 by omega,show VB*60%86400/60%60=VB%60 by omega]
  by_cases D:VB/1440<before 10000
  ·rw[if_neg O,if_pos D]
   have hp:pM r (VB%1440)=(CC W.SA (VB/60%24)&&CC W.PA (VB%60)):=by
    unfold pM;rw[o.bh,o.bi,BU,BU,show VB%1440/60%24=VB/60%24 by omega,show VB%1440%60=VB%60 by omega]
   rw[hp]
   cases stays W (VB/1440)with
   |false=>rw[if_pos (.inl rfl)];rfl
   |true=>
    cases CC W.SA (VB/60%24)with
    |false=>rw[if_pos (.inr rfl)];rfl
    |true=>
     have g1:(if W.BA=4 then nB W.PA else[VB%60])=[VB%60]:=if_neg O
     have g2:(if W.BA<6 then nB W.RA else[VB*60%86400%60])=nB W.RA:=if_pos O
     rw[if_neg (by simp),g1,g2,show VB%1440/60%24=VB/60%24 by omega,show VB%1440%60=VB%60 by omega,On o k _ _ O]
     cases hm:CC W.PA (VB%60)with
     |false=>simp[hm]
     |true=>
      rw[Bool.and_self,Bool.and_self,if_pos rfl]
      congr 1
      unfold kF
      simp only[List.flatMap_cons,List.flatMap_nil,List.append_nil]
      have Ae:((nB W.RA).filter λs=>CC W.PA (VB%60)&&CC W.RA s)=nB W.RA:=List.filter_eq_self.2 λs hs=>by
       rw[hm,zd (QH.1 hs)];rfl
      rw[Ae,List.map_map]
      exact List.map_congr_left λs _=>by show VB/1440*86400+VB/60%24*3600+VB%60*60+s=VB/1440*86400+(VB/60%24*3600+VB%60*60+s);omega
  ·rw[if_pos O,if_neg D]
 unfold UG
 rw[if_neg O]
 dsimp only
 rw[hi,hs]
 unfold gE
 rw[if_pos rfl]
 split<;>rfl
theorem J5 (o:Of r W) (k:tH W) (hf:W.BA=6) (hs:W.OB=[]) (n:Nat):UG W n=zG W 86400 W.GA (pS r) (λt=>[(t/3600%24)*3600+(t/60%60)*60+(t%60)]) n:=by
 obtain⟨VB,hX⟩:∃VB,VB=W.GA+(n:Int)*W.IA:=⟨_,rfl⟩
 have e0:W.GA/pE W.BA*pE W.BA+(n:Int)*W.IA*pE W.BA=VB:=by
  unfold pE;rw[if_neg O,if_pos hf,hX];omega
 have hi:vH W n=zG W 86400 W.GA (pS r) (λt=>[(t/3600%24)*3600+(t/60%60)*60+(t%60)]) n:=by
  unfold vH zG
  dsimp only
  rw[e0,<-hX,show VB%86400/3600=VB/3600%24 by omega,show VB%86400/60%60=VB/60%60 by omega,show VB%86400%60=VB%60 by omega]
  by_cases D:VB/86400<before 10000
  ·rw[if_neg O,if_pos D]
   have hp:pS r (VB%86400)=((CC W.SA (VB/3600%24)&&CC W.PA (VB/60%60))&&CC W.RA (VB%60)):=by
    unfold pS;rw[o.bh,o.bi,o.bs,BU,BU,BU,show VB%86400/3600%24=VB/3600%24 by omega,show VB%86400/60%60=VB/60%60 by omega,show VB%86400%60=VB%60 by omega]
   rw[hp]
   cases stays W (VB/86400)with
   |false=>rw[if_pos (.inl rfl)];rfl
   |true=>
    cases CC W.SA (VB/3600%24)with
    |false=>rw[if_pos (.inr rfl)];rfl
    |true=>
     have g1:(if W.BA=4 then nB W.PA else[VB/60%60])=[VB/60%60]:=if_neg O
     have g2:(if W.BA<6 then nB W.RA else[VB%60])=[VB%60]:=if_neg O
     rw[if_neg (by simp),g1,g2,show VB/3600%24%24=VB/3600%24 by omega]
     cases hm:CC W.PA (VB/60%60)<;>cases K5:CC W.RA (VB%60)<;>simp[hm,K5]<;>omega
  ·rw[if_pos O,if_neg D]
 unfold UG
 rw[if_neg O]
 dsimp only
 rw[hi,hs]
 unfold gE
 rw[if_pos rfl]
 split<;>rfl
end
theorem Rn {p:Int->Bool} {EA:Int}:∀{K:Nat} {t:Int} (j:Nat),1<=j->j<=K->p (t+(j:Int)*EA)=true->(OE p EA K t).isSome=true
 |0,t,j,D,h2,_=>by omega
 |K+1,t,j,D,h2,h3=>by
  unfold OE
  split
  ·rfl
  ·rename_i hp
   obtain⟨j',rfl⟩:∃j',j=j'+1:=⟨j-1,O⟩
   have e:t+((j'+1:Nat):Int)*EA=t+EA+(j':Int)*EA:=by rw[Int.natCast_add,Int.add_mul];simp;omega
   rw[e]at h3
   refine Rn j' ?_ O h3
   by_cases hz:j'=0
   ·subst hz;simp at h3;exact absurd h3 hp
   ·omega
theorem L5:∀tA∈[24,1440,86400],∀a∈List.range 25,1<=a->∃v∈List.range 25,(Nat.gcd a tA+v*tA)%a=0:=by decide +kernel
theorem M5 {tA a:Nat} (hU:tA∈[24,1440,86400]) (D:1<=a) (h2:a<=24):∃u v:Int,u*a=Nat.gcd a tA+v*tA:=by
 obtain⟨v,_,h⟩:=L5 tA hU a (List.mem_range.2 O) D
 refine⟨(((Nat.gcd a tA+v*tA)/a:Nat):Int),v,?_⟩
 have:=Nat.div_add_mod (Nat.gcd a tA+v*tA) a
 rw[h,Nat.add_zero,Nat.mul_comm]at this
 exact_mod_cast this
theorem N5 {p:Int->Bool} {tA:Int} (hp:∀t,p t=p (t%tA)) (t q:Int):p (t+tA*q)=p t:=by rw[hp,Int.add_mul_emod_self_left,<-hp]
theorem O5 {p:Int->Bool} {tA a:Nat} (hU:tA∈[24,1440,86400]) (D:1<=a) (h2:a<=24) (hp:∀t,p t=p (t%(tA:Int))) {pos t:Int} (ht:p t=true) (hd:((Nat.gcd a tA:Nat):Int)∣t-pos):RF p (a:Int) tA pos:=λn=>by
 have P5:1<=tA:=by simp at hU;omega
 obtain⟨u,v,Q5⟩:=M5 hU D h2
 have Vk:((Nat.gcd a tA:Nat):Int)∣t- (pos+(n:Int)*a):=by
  rw[show t- (pos+(n:Int)*a)=t-pos- (n:Int)*a by omega]
  exact Int.dvd_sub hd (Int.dvd_mul_of_dvd_right (Int.natCast_dvd_natCast.2 (Nat.gcd_dvd_left a tA)))
 obtain⟨e,he⟩:=Vk
 obtain⟨j,hj⟩:∃j:Nat,(j:Int)=(u*e-1)%(tA:Int)+1:=⟨((u*e-1)%(tA:Int)+1).toNat,by have:=Int.emod_nonneg (u*e-1) (show(tA:Int)≠0 by omega);omega⟩
 have UJ:=Int.emod_nonneg (u*e-1) (show(tA:Int)≠0 by omega)
 have vB:=Int.emod_lt_of_pos (u*e-1) (show(0:Int)<tA by omega)
 have qF:=Int.emod_add_mul_ediv (u*e-1) tA
 refine Rn j O O ?_
 obtain⟨w,hw⟩:∃w,w=(u*e-1)/(tA:Int):=⟨_,rfl⟩
 rw[<-hw]at qF
 have ej:(j:Int)=u*e-tA*w:=O
 have:pos+(n:Int)*a+(j:Int)*a=t+tA*(e*v-w*a):=by
  have e1:(j:Int)*a=e*(u*a)-tA*(w*a):=by
   rw[ej,Int.sub_mul,Int.mul_assoc tA w,Int.mul_comm u e,Int.mul_assoc e u]
  rw[e1,Q5,Int.mul_add,Int.mul_sub,<-Int.mul_assoc e v,Int.mul_comm (e*v) (tA:Int)]
  rw[Int.mul_comm e ((Nat.gcd a tA:Nat):Int),<-he]
  omega
 rw[this,N5 hp];exact ht
end En
section
def MA.AA (r:MA):MA:=
 {r with
  IA:=if r.IA>1 then r.IA else 1
  CE:=true
  xB:=if r.CE=true then r.xB else r.GA+9223372036
  VA:=if r.kC=false/\r.BA=0/\r.VA=[]then[KB (r.GA/86400)]else r.VA
  TA:=if r.kC=false/\(r.BA=0\/r.BA=1)then[JC (r.GA/86400)]else r.TA
  FA:=if r.kC=false/\r.BA=2 then[(r.GA/86400%7,0)]else r.FA
  SA:=if r.SA=[]/\r.BA<4 then[r.GA%86400/3600]else r.SA
  PA:=if r.PA=[]/\r.BA<5 then[r.GA%86400/60%60]else r.PA
  RA:=if r.RA=[]/\r.BA<6 then[r.GA%86400%60]else r.RA}
end
namespace En
def JA (J:MA):RR where
 BA:=J.BA
 dt:=J.GA
 EA:=if J.IA>1 then J.IA else 1
 wk:=J.HB
 EB:=J.count
 XA:=J.AA.xB
 un:=if J.CE=true then 0 else 854775807
 sp:=J.OB
 bm:=J.AA.VA
 FC:=J.AA.TA.filter λn=>decide (0<n)
 GC:=J.AA.TA.filter λn=>decide (n<0)
 PF:=J.LB
 uB:=J.sA
 VC:=(J.AA.FA.filter λd=>d.2==0||decide (J.BA>1)).map (·.1)
 vA:=J.AA.FA.filter λd=> !(d.2==0||decide (J.BA>1))
 bh:=J.AA.SA
 bi:=J.AA.PA
 bs:=J.AA.RA
 be:=J.NB
 ts:=if J.BA<4 then YE (kF J.AA.SA J.AA.PA J.AA.RA)else[]
theorem AJ (J:MA):Of (JA J) J.AA:=⟨rfl,rfl,rfl,rfl,rfl,rfl,rfl,rfl,rfl,rfl,rfl,rfl,rfl,rfl,rfl,rfl,rfl⟩
def VG (J:MA):List Int:=
 let t:=J.GA%86400
 if J.BA<4 then(JA J).ts
 else if J.BA=4 then(if pH (JA J) (t/3600)=true then UI (JA J) (t/3600)else[])
 else if J.BA=5 then(if pM (JA J) (t/60)=true then UH (JA J) (t/60/60%24) (t/60%60)else[])
 else(if pS (JA J) t=true then[(t/3600%24)*3600+(t/60%60)*60+(t%60)]else[])
def PC (J:MA):CR where
 y:=oA (J.GA/86400)
 m:=KB (J.GA/86400)
 d:=JC (J.GA/86400)
 hh:=J.GA%86400/3600
 mi:=J.GA%86400/60%60
 s:=J.GA%86400%60
 wd:=J.GA/86400%7
 ts:=VG J
 total:=0
 count:=J.count
 st:=[]
 so:=0
 sl:=0
 ds:=[]
def tD (f:Int):RR->CR->Option CR:=if f=0 then bK else if f=1 then fG else if f=2 then ML else if f=3 then vM else if f=4 then dK else if f=5 then fK else iK
def aD (f:Int):CR->Nat:=if f=0 then jN else if f=1 then NL else if f=2 then SG else if f=3 then SG else if f=4 then kN else if f=5 then lN else mN
def MD (f:Int):Nat:=if f=4 then 24 else if f=5 then 1440 else 86400
def posOf (f:Int) (c:CR):Int:=if f=4 then c.hh else if f=5 then 60*c.hh+c.mi else 3600*c.hh+60*c.mi+c.s
def BJ (f:Int) (r:RR):Int->Bool:=if f=4 then pH r else if f=5 then pM r else pS r
def qN (r:RR) (f:Int) (c:CR):Prop:=LQ c/\(2<=f->c.d<=fB c.y c.m)/\(4<=f->RF (BJ f r) r.EA (MD f) (posOf f c))
structure lR (J:MA):Prop where
 WJ:J.Clean
 nn:0<=J.BA
 Sn:0<J.sA.length->∀n∈J.sA,-51<=n/\n<=51
 S5:J.BA=2->J.OB=[]\/J.GA/86400%7=J.HB
 Md:(∀p∈J.FA,p.2=0)\/(∀p∈J.FA,p.2≠0)
 HE:4<=J.BA->J.OB=[]
 Be:4<=J.BA->J.IA<=24
 met:4<=J.BA->∃t,BJ J.BA (JA J) t=true/\((Nat.gcd J.AA.IA.toNat (MD J.BA):Nat):Int)∣t-posOf J.BA (PC J)
theorem SW {J:MA} (hc:J.Clean):tH J.AA:=by
 have one:∀{l:List Int} {p:Prop} [Decidable p] {x:Int},((if l=[]/\p then[x]else l).length:Int)<=FD l.length:=λ{l p _ x}=>by
  unfold FD;split
  ·rename_i h;rw[h.1];simp
  ·split<;>omega
 have hM:=sJ (XE hc.PA)
 have hS:=sJ (XE hc.RA)
 have hH:=sJ (XE hc.SA)
 have hMS:=uc hM hS
 have ht:=hc.times
 have mR:FD J.PA.length*FD J.RA.length<=60:=by
  have:1*(FD J.PA.length*FD J.RA.length)<=FD J.SA.length*(FD J.PA.length*FD J.RA.length):=Int.mul_le_mul_of_nonneg_right hH.1 O
  rw[Int.one_mul,<-Int.mul_assoc]at this
  omega
 have nd:∀{l:List Int} {p:Prop} [Decidable p] {x:Int},l.Nodup->(if l=[]/\p then[x]else l).Nodup:=λ{l p _ x} h=>by split<;>simp[h]
 have rg:∀{l:List Int} {p:Prop} [Decidable p] {x lo hi:Int},(∀y∈l,lo<=y/\y<=hi)->lo<=x/\x<=hi->∀y∈(if l=[]/\p then[x]else l),lo<=y/\y<=hi:=λ{l p _ x lo hi} h hx y hy=>by
  split at hy
  ·rw[List.mem_singleton]at hy;subst hy;exact hx
  ·exact h y hy
 refine⟨nd (tc hc.SA),rg (λy hy=> ?_) O,nd (tc hc.PA),rg (λy hy=> ?_) O,nd (tc hc.RA),rg (λy hy=> ?_) O,?_,?_,?_,?_⟩
 ·have:=SH hc.SA hy;omega
 ·have:=SH hc.PA hy;omega
 ·have:=SH hc.RA hy;omega
 ·have:= @one J.SA (J.BA<4) _ (J.GA%86400/3600)
  show(if J.SA=[]/\J.BA<4 then[J.GA%86400/3600]else J.SA).length<=12
  omega
 ·have:= @one J.PA (J.BA<5) _ (J.GA%86400/60%60)
  show(if J.PA=[]/\J.BA<5 then[J.GA%86400/60%60]else J.PA).length<=12
  omega
 ·have:= @one J.RA (J.BA<6) _ (J.GA%86400%60)
  show(if J.RA=[]/\J.BA<6 then[J.GA%86400%60]else J.RA).length<=12
  omega
 ·have D:= @one J.PA (J.BA<5) _ (J.GA%86400/60%60)
  have h2:= @one J.RA (J.BA<6) _ (J.GA%86400%60)
  have:((J.AA.PA.length*J.AA.RA.length:Nat):Int)<=FD J.PA.length*FD J.RA.length:=by
   rw[Int.natCast_mul]
   exact Int.mul_le_mul D h2 O O
  omega
section
variable {J:MA} (a:lR J)
include a
theorem RZ:31536000<=J.GA/\J.GA<before 9001*86400:=by
 have h:=a.WJ.GA
 have:before 2=365:=by decide
 omega
theorem TW:(2<=oA (J.GA/86400)/\oA (J.GA/86400)<=9000)/\(1<=KB (J.GA/86400)/\KB (J.GA/86400)<=12)/\(1<=JC (J.GA/86400)/\JC (J.GA/86400)<=fB (oA (J.GA/86400)) (KB (J.GA/86400))):=by
 have h:=RZ a
 have e2:before 2=365:=by decide
 have D:=rI (n:=J.GA/86400) (y:=2) O
 have h2:=OJ (n:=J.GA/86400) (y:=9001) O
 exact⟨O,OI _ _,mM _⟩
theorem Ce:wM J.AA:=by
 have hc:=a.WJ
 obtain⟨d1,d2,d3⟩:=TW a
 have hf:=a.nn
 have xH:=hc.BA
 have Uk:∀p∈J.FA,0<=p.1/\p.1<=6:=λp hp=>⟨(hc.oP p hp).1,(hc.oP p hp).2.1⟩
 have CU:∀{l:List Int},¬0<l.length->l=[]:=λ{l} h=>List.length_eq_zero_iff.1 O
 refine⟨⟨hf,xH⟩,hc.HB,?_,?_,?_,?_,?_,?_,?_,?_,?_⟩
 ·intro m hm
  show 1<=m/\m<=12
  have hm:m∈(if J.kC=false/\J.BA=0/\J.VA=[]then[KB (J.GA/86400)]else J.VA):=hm
  split at hm
  ·rw[List.mem_singleton]at hm;subst hm;exact d2
  ·have:=SH hc.VA hm;omega
 ·intro m hm
  have hm:m∈(if J.kC=false/\(J.BA=0\/J.BA=1)then[JC (J.GA/86400)]else J.TA):=hm
  split at hm
  ·rw[List.mem_singleton]at hm;subst hm;omega
  ·intro e;have:=(SH hc.TA hm).2.2 e;cases this
 ·intro n hn
  have hn:n∈J.sA:=hn
  have D:=a.Sn (List.length_pos_of_mem hn) n hn
  exact⟨λe=>by(have:=(SH hc.sA hn).2.2 e;cases this),D⟩
 ·intro o ho
  have:=SH hc.NB (show o∈J.NB from ho)
  omega
 ·intro p hp
  have hp:p∈(if J.kC=false/\J.BA=2 then[(J.GA/86400%7,0)]else J.FA):=hp
  split at hp
  ·rw[List.mem_singleton]at hp;subst hp;dsimp only;omega
  ·exact Uk p hp
 ·show(∀p∈(if J.kC=false/\J.BA=2 then[(J.GA/86400%7,0)]else J.FA),p.2=0)\/_
  split
  ·left;intro p hp;rw[List.mem_singleton]at hp;subst hp;rfl
  ·rename_i hn
   rcases a.Md with h|h
   ·exact .inl h
   ·right
    show∀p∈(if J.kC=false/\J.BA=2 then[(J.GA/86400%7,0)]else J.FA),p.2≠0
    rw[if_neg hn];exact h
 ·intro TO p hp
  have TO:J.BA>1:=TO
  have hp:p∈(if J.kC=false/\J.BA=2 then[(J.GA/86400%7,0)]else J.FA):=hp
  split at hp
  ·rw[List.mem_singleton]at hp;subst hp;rfl
  ·have h:=hc.oP p hp
   have hm:J.lF=0:=by unfold MA.lF;rw[if_neg O,if_neg O]
   unfold lP at h
   rw[hm]at h;omega
 ·intro h2
  have h2:J.BA=2:=h2
  refine⟨?_,CU λh=>hc.Pl h (.inr (.inl h2)),CU λh=>by have:=hc.nT h;omega,CU λh=>by have:=hc.rc h;omega⟩
  show(if J.kC=false/\(J.BA=0\/J.BA=1)then _ else J.TA)=[]
  rw[if_neg O]
  exact CU λh=>hc.Ol h h2
 ·intro D
  have D:J.BA=1:=D
  exact⟨CU λh=>by have:=hc.nT h;omega,CU λh=>by have:=hc.rc h;omega⟩
theorem rN:tH J.AA:=SW a.WJ
theorem T5:(J.AA.SA.length:Int)*((J.AA.PA.length:Int)*(J.AA.RA.length:Int))<=60:=by
 have hc:=a.WJ
 have one:∀{l:List Int} {p:Prop} [Decidable p] {x:Int},((if l=[]/\p then[x]else l).length:Int)<=FD l.length:=λ{l p _ x}=>by
  unfold FD;split
  ·rename_i h;rw[h.1];simp
  ·split<;>omega
 have hM:=sJ (XE hc.PA)
 have hS:=sJ (XE hc.RA)
 have hH:=sJ (XE hc.SA)
 have ht:=hc.times
 have h0:= @one J.SA (J.BA<4) _ (J.GA%86400/3600)
 have D:= @one J.PA (J.BA<5) _ (J.GA%86400/60%60)
 have h2:= @one J.RA (J.BA<6) _ (J.GA%86400%60)
 have h3:(J.AA.PA.length:Int)*(J.AA.RA.length:Int)<=FD J.PA.length*FD J.RA.length:=Int.mul_le_mul D h2 O O
 have h4:(J.AA.SA.length:Int)*((J.AA.PA.length:Int)*(J.AA.RA.length:Int))<=FD J.SA.length*(FD J.PA.length*FD J.RA.length):=
  Int.mul_le_mul h0 h3 (Int.mul_nonneg O O) O
 rw[<-Int.mul_assoc (FD _)]at h4
 omega
theorem De:J.AA.GA<=J.AA.xB:=by
 show J.GA<=if J.CE=true then J.xB else J.GA+9223372036
 split
 ·rename_i h;exact(a.WJ.xB h).1
 ·omega
theorem UW:1<=J.AA.IA/\J.AA.IA<=1000:=by
 have:=a.WJ.IA
 show 1<=(if J.IA>1 then J.IA else 1)/\(if J.IA>1 then J.IA else 1)<=1000
 split<;>omega
theorem Tn (hf:J.BA<4):(JA J).ts=VJ J.AA:=by
 have k:=rN a
 show(if J.BA<4 then YE (kF J.AA.SA J.AA.PA J.AA.RA)else[])=_
 rw[if_pos hf,pd k.hn k.mn k.sn k.m k.s];rfl
theorem DU (hf:J.BA<4):yJ (JA J) J.AA (VJ J.AA):=by
 have hc:=a.WJ
 have k:=rN a
 refine⟨AJ J,Ce a,C5 k,?_,?_,?_,?_,UW a,(show 31536000<=J.GA/\J.GA<before 9001*86400 from RZ a),De a,hc.count⟩
 ·have ne:∀{l:List Int} {p:Prop} [Decidable p] {x:Int},p->(if l=[]/\p then[x]else l)≠[]:=λ{l p _ x} hp=>by
   split
   ·simp
   ·rename_i h;exactλe=>h ⟨e,hp⟩
  have D:J.AA.SA≠[]:=ne hf
  have h2:J.AA.PA≠[]:=ne (show J.BA<5 by omega)
  have h3:J.AA.RA≠[]:=ne (show J.BA<6 by omega)
  intro e
  have:=congrArg List.length e
  unfold VJ at this
  rw[AQ,uI,uI,uI]at this
  have g1:=List.length_pos_iff.2 D;have g2:=List.length_pos_iff.2 h2;have g3:=List.length_pos_iff.2 h3
  have:=Nat.mul_pos g1 (Nat.mul_pos g2 g3)
  simp at*;omega
 ·have:=T5 a
  unfold VJ
  rw[AQ,uI,uI,uI]
  have:((J.AA.SA.length*(J.AA.PA.length*J.AA.RA.length):Nat):Int)<=60:=by rw[Int.natCast_mul,Int.natCast_mul];exact this
  omega
 ·intro p hp e
  have:=(SH hc.OB (show p∈J.OB from hp)).2.2 e;cases this
 ·have:=XE hc.OB
  show J.OB.length<=100;omega
theorem SZ (hf:4<=J.BA):uO (JA J) J.AA:=
 ⟨AJ J,Ce a,hf,a.HE hf,UW a,(show 31536000<=J.GA/\J.GA<before 9001*86400 from RZ a),De a,a.WJ.count⟩
end
theorem xI.congr {QB:RR->CR->Option CR} {r:RR} {P Q:CR->Prop} {lim:CR->Nat} (h:xI QB r P lim) (e:∀c,P c↔Q c):xI QB r Q lim:=by
 have:P=Q:=funext λc=>propext (e c)
 rwa [<-this]
def HJ (N:Nat) (EB:Int):Nat:=if 0<EB then min N EB.toNat else N
theorem GS {QB:RR->CR->Option CR} {r:RR} {P:CR->Prop} {lim:CR->Nat} {inst:Nat->List Int×Bool} {late:Nat->Bool} {At:Nat->CR->Prop} (h:nO QB r inst late At) (g:xI QB r P lim) {c0:CR} (hp:P (WB c0)) (PE:At 0 c0) (D:c0.st=[]) (h2:c0.so=0) (h3:c0.sl=0) (h4:c0.total=0) {N f:Nat} (hN:0<N) {EB:Int} (hc:0<=EB) (ZG:c0.count=EB) {want:List Int}
  (hg:VI r.XA r.dt inst late (HJ N EB) f 0 []=(want,false)):TJ QB r lim N (.inl c0)=want:=by
 have hm:0<HJ N EB:=by unfold HJ;split<;>omega
 have hw:=Wd h (N:=N) (kB:=HJ N EB) (Ct:=EB) f 0 (l:=[]) (want:=want) (k':=0) (c:=c0) (max (f+1) (lim (WB c0))) O (Nat.le_refl 0) (λj _ hj=>by omega) PE hg (Nat.zero_le _) (by
  unfold HJ
  by_cases h:0<EB
  ·right
   rw[if_pos h]
   refine⟨O,by simp;omega,O,?_⟩
   rcases Nat.le_total N EB.toNat with h5|h5
   ·left;omega
   ·right;exact⟨O,O⟩
  ·left;rw[if_neg h];exact⟨O,rfl⟩) (by simpa using hm)
 rw[List.nil_append,Xm g hp O]at hw
 have hk:xP P lim (40000*(lim (WB c0):Int)) (.inl c0):=⟨hp,by rw[D,h2,h3];simp,λ_=>h2,O,O⟩
 rw[km g N hk]
 show(sH c0.st c0.so c0.sl++zM QB r lim c0).take N=want
 rw[D,h2,h3,hw];rfl
section
variable {J:MA} (a:lR J)
include a
theorem aAA:NA (PC J).y (PC J).m (PC J).d=J.GA/86400:=iP _
theorem bAA:(VG J).length<=100/\∀t∈VG J,0<=t/\t<86400:=by
 have hn:([]:List Int).length<=100/\∀t∈([]:List Int),0<=t/\t<86400:=⟨by simp,λt h=>by simp at h⟩
 have k:=rN a
 unfold VG
 dsimp only
 split
 ·rename_i hf
  have b:=DU a hf
  rw[Tn a hf]
  exact⟨b.E4,b.tok.range⟩
 ·split
  ·split
   ·exact(uH (AJ J) k).jR _ O (by show J.GA%86400/3600<((24:Nat):Int);omega)
   ·exact hn
  ·split
   ·split
    ·exact(uM (AJ J) k).jR (J.GA%86400/60) O (by show J.GA%86400/60<((1440:Nat):Int);omega)
    ·exact hn
   ·split
    ·exact(uS (AJ J) k).jR (J.GA%86400) O (by show J.GA%86400<((86400:Nat):Int);omega)
    ·exact hn
theorem uf:LQ (PC J):=by
 obtain⟨d1,d2,d3⟩:=TW a
 have:= @OG (oA (J.GA/86400)) (KB (J.GA/86400))
 have hc:=a.WJ.count
 refine⟨by show 2<=oA _/\oA _<=9999;omega,d2,by show 1<=JC _/\JC _<=31;omega,?_,?_,?_,?_,bAA a,hc⟩
 ·show 0<=J.GA%86400/3600/\J.GA%86400/3600<=23;omega
 ·show 0<=J.GA%86400/60%60/\J.GA%86400/60%60<=59;omega
 ·show 0<=J.GA%86400%60/\J.GA%86400%60<=59;omega
 ·show 0<=J.GA/86400%7/\J.GA/86400%7<=6;omega
theorem br (hf:4<=J.BA):RF (BJ J.BA (JA J)) (JA J).EA (MD J.BA) (posOf J.BA (PC J)):=by
 obtain⟨t,D,h2⟩:=a.met hf
 have hi:=a.Be hf
 have MM:=UW a
 have e:(J.AA.IA.toNat:Int)=J.AA.IA:=O
 have hle:J.AA.IA<=24:=by show(if J.IA>1 then J.IA else 1)<=24;split<;>omega
 have hU:MD J.BA∈[24,1440,86400]:=by unfold MD;(repeat' split)<;>simp
 have kd:∀t,BJ J.BA (JA J) t=BJ J.BA (JA J) (t%(MD J.BA:Int)):=by
  have k:=rN a
  unfold BJ MD
  split
  ·exact(uH (AJ J) k).pN
  ·split
   ·exact(uM (AJ J) k).pN
   ·exact(uS (AJ J) k).pN
 have:=O5 (p:=BJ J.BA (JA J)) hU (show 1<=J.AA.IA.toNat by omega) O kd D h2
 rw[e]at this
 exact this
theorem gr:qN (JA J) J.BA (WB (PC J)):=by
 have h:=uf a
 refine⟨⟨h.y,h.m,h.d,h.hh,h.mi,h.s,h.wd,h.ts,h.count⟩,λ_=>(TW a).2.2.2,λhf=> ?_⟩
 have:=br a hf
 exact this
theorem ir:xI (tD J.BA) (JA J) (qN (JA J) J.BA) (aD J.BA):=by
 have lM:=a.nn
 have xH:=a.WJ.BA
 have k:=rN a
 rcases(by omega:J.BA=0\/J.BA=1\/J.BA=2\/J.BA=3\/J.BA=4\/J.BA=5\/J.BA=6)with h|h|h|h|h|h|h
 ·have:=J4 (DU a O)
  unfold tD aD
  rw[if_pos h,if_pos h]
  exact this.congr λc=>⟨λD=>⟨D,λ_=>by omega,λ_=>by omega⟩,λD=>D.1⟩
 ·have:=N4 (DU a O)
  unfold tD aD
  rw[if_neg O,if_pos h,if_neg O,if_pos h]
  exact this.congr λc=>⟨λD=>⟨D,λ_=>by omega,λ_=>by omega⟩,λD=>D.1⟩
 ·have:=V4 (DU a O)
  unfold tD aD
  rw[if_neg O,if_neg O,if_pos h,if_neg O,if_neg O,if_pos h]
  exact this.congr λc=>⟨λD=>⟨D.1,λ_=>D.2,λ_=>by omega⟩,λD=>⟨D.1,D.2.1 O⟩⟩
 ·have:=P4 (DU a O)
  unfold tD aD
  rw[if_neg O,if_neg O,if_neg O,if_pos h,if_neg O,if_neg O,if_neg O,if_pos h]
  exact this.congr λc=>⟨λD=>⟨D.1,λ_=>D.2,λ_=>by omega⟩,λD=>⟨D.1,D.2.1 O⟩⟩
 ·have:=od (SZ a O) (uH (AJ J) k) kN (λc=>rfl) (λc=>rfl)
  unfold tD aD
  rw[if_neg O,if_neg O,if_neg O,if_neg O,if_pos h,if_neg O,if_neg O,if_neg O,if_neg O,if_pos h]
  refine this.congr λc=> ?_
  unfold qN BJ MD posOf
  rw[if_pos h,if_pos h,if_pos h]
  exact⟨λD=>⟨D.1,λ_=>D.2.1,λ_=>D.2.2⟩,λD=>⟨D.1,D.2.1 O,D.2.2 O⟩⟩
 ·have:=od (SZ a O) (uM (AJ J) k) lN (λc=>rfl) (λc=>rfl)
  unfold tD aD
  rw[if_neg O,if_neg O,if_neg O,if_neg O,if_neg O,if_pos h,if_neg O,if_neg O,if_neg O,if_neg O,if_neg O,if_pos h]
  refine this.congr λc=> ?_
  unfold qN BJ MD posOf
  rw[if_neg O,if_pos h,if_neg O,if_pos h,if_neg O,if_pos h]
  exact⟨λD=>⟨D.1,λ_=>D.2.1,λ_=>D.2.2⟩,λD=>⟨D.1,D.2.1 O,D.2.2 O⟩⟩
 ·have:=od (SZ a O) (uS (AJ J) k) mN (λc=>rfl) (λc=>rfl)
  unfold tD aD
  rw[if_neg O,if_neg O,if_neg O,if_neg O,if_neg O,if_neg O,if_neg O,if_neg O,if_neg O,if_neg O,if_neg O,if_neg O]
  refine this.congr λc=> ?_
  unfold qN BJ MD posOf
  rw[if_neg O,if_neg O,if_neg O,if_neg O,if_neg O,if_neg O]
  exact⟨λD=>⟨D.1,λ_=>D.2.1,λ_=>D.2.2⟩,λD=>⟨D.1,D.2.1 O,D.2.2 O⟩⟩
theorem cAA {N:Nat} (hN:0<N) {want:List Int} {f:Nat}
  (hg:VI J.AA.xB J.GA (UG J.AA) (yI J.AA) (HJ N J.count) f 0 []=(want,false)):TJ (tD J.BA) (JA J) (aD J.BA) N (.inl (PC J))=want:=by
 have lM:=a.nn
 have xH:=a.WJ.BA
 have k:=rN a
 have kK:=a.WJ.count
 have g:=ir a
 have hp:=gr a
 have IS:=uf a
 have OD:=aAA a
 have oG:=(TW a).2.2.2
 have hS:=RZ a
 by_cases hf:J.BA<4
 ·have b:=DU a hf
  have hi:UG J.AA=AM J.AA (VJ J.AA):=funext λn=>G5 (W:=J.AA) hf n
  rw[hi]at hg
  have sD:(PC J).ts=VJ J.AA:=by show VG J=_;unfold VG;dsimp only;rw[if_pos hf,Tn a hf]
  rcases(by omega:J.BA=0\/J.BA=1\/J.BA=2\/J.BA=3)with h|h|h|h
  ·have ha:tD J.BA=bK:=by unfold tD;rw[if_pos h]
   rw[ha]at g⊢
   have hs:=I4 b h
   exact GS hs g hp ⟨IS,sD,by show oA _=oA _+((0:Nat):Int)*_;simp;rfl⟩ rfl rfl rfl rfl hN kK.1 rfl hg
  ·have ha:tD J.BA=fG:=by unfold tD;rw[if_neg O,if_pos h]
   rw[ha]at g⊢
   have hs:=M4 b h
   exact GS hs g hp ⟨IS,sD,by show 12*oA _+KB _=12*oA _+KB _+((0:Nat):Int)*_;simp;rfl⟩ rfl rfl rfl rfl hN kK.1 rfl hg
  ·have ha:tD J.BA=ML:=by unfold tD;rw[if_neg O,if_neg O,if_pos h]
   rw[ha]at g⊢
   have hs:=S4 b h (a.S5 h)
   exact GS hs g hp ⟨⟨IS,oG⟩,sD,by rw[OD];rfl,by rw[OD,if_pos rfl];rfl⟩ rfl rfl rfl rfl hN kK.1 rfl hg
  ·have ha:tD J.BA=vM:=by unfold tD;rw[if_neg O,if_neg O,if_neg O,if_pos h]
   rw[ha]at g⊢
   have hs:=O4 b h
   exact GS hs g hp ⟨⟨IS,oG⟩,sD,by rw[OD];show _=J.GA/86400+((0:Nat):Int)*_;simp⟩ rfl rfl rfl rfl hN kK.1 rfl hg
 ·have b:=SZ a O
  have uF:=a.HE O
  have oT:yI J.AA=λ_=>false:=funext λn=>by unfold yI;rw[decide_eq_false (show¬J.AA.BA<4 from hf)];rfl
  have KM:=br a O
  rw[oT]at hg
  rcases(by omega:J.BA=4\/J.BA=5\/J.BA=6)with h|h|h
  ·have hi:UG J.AA=zG J.AA ((24:Nat):Int) (J.GA/3600) (pH (JA J)) (UI (JA J)):=funext λn=>H5 (AJ J) k h uF n
   rw[hi]at hg
   have ha:tD J.BA=dK:=by unfold tD;rw[if_neg O,if_neg O,if_neg O,if_neg O,if_pos h]
   rw[ha]at g⊢
   have hs:=ld b (uH (AJ J) k) (J.GA/3600) O
   refine GS hs g hp ⟨⟨IS,oG,?_⟩,?_,?_⟩ rfl rfl rfl rfl hN kK.1 rfl hg
   ·unfold BJ MD posOf at KM;rw[if_pos h,if_pos h,if_pos h]at KM;exact KM
   ·rw[OD];show((24:Nat):Int)*(J.GA/86400)+J.GA%86400/3600=J.GA/3600+((0:Nat):Int)*_;simp;omega
   ·show VG J=if pH (JA J) (J.GA%86400/3600)=true then UI (JA J) (J.GA%86400/3600)else[]
    unfold VG;dsimp only;rw[if_neg O,if_pos h]
  ·have hi:UG J.AA=zG J.AA ((1440:Nat):Int) (J.GA/60) (pM (JA J)) (λt=>UH (JA J) (t/60%24) (t%60)):=funext λn=>I5 (AJ J) k h uF n
   rw[hi]at hg
   have ha:tD J.BA=fK:=by unfold tD;rw[if_neg O,if_neg O,if_neg O,if_neg O,if_neg O,if_pos h]
   rw[ha]at g⊢
   have hs:=ld b (uM (AJ J) k) (J.GA/60) O
   have e:60*(J.GA%86400/3600)+J.GA%86400/60%60=J.GA%86400/60:=O
   refine GS hs g hp ⟨⟨IS,oG,?_⟩,?_,?_⟩ rfl rfl rfl rfl hN kK.1 rfl hg
   ·unfold BJ MD posOf at KM;rw[if_neg O,if_pos h,if_neg O,if_pos h,if_neg O,if_pos h]at KM;exact KM
   ·rw[OD];show((1440:Nat):Int)*(J.GA/86400)+(60*(J.GA%86400/3600)+J.GA%86400/60%60)=J.GA/60+((0:Nat):Int)*_;simp;omega
   ·show VG J=if pM (JA J) (60*(J.GA%86400/3600)+J.GA%86400/60%60)=true then UH (JA J) ((60*(J.GA%86400/3600)+J.GA%86400/60%60)/60%24) ((60*(J.GA%86400/3600)+J.GA%86400/60%60)%60)else[]
    rw[e]
    unfold VG;dsimp only;rw[if_neg O,if_neg O,if_pos h]
  ·have hi:UG J.AA=zG J.AA ((86400:Nat):Int) J.GA (pS (JA J)) (λt=>[(t/3600%24)*3600+(t/60%60)*60+(t%60)]):=funext λn=>J5 (AJ J) k h uF n
   rw[hi]at hg
   have ha:tD J.BA=iK:=by unfold tD;rw[if_neg O,if_neg O,if_neg O,if_neg O,if_neg O,if_neg O]
   rw[ha]at g⊢
   have hs:=ld b (uS (AJ J) k) J.GA O
   have e:3600*(J.GA%86400/3600)+60*(J.GA%86400/60%60)+J.GA%86400%60=J.GA%86400:=O
   refine GS hs g hp ⟨⟨IS,oG,?_⟩,?_,?_⟩ rfl rfl rfl rfl hN kK.1 rfl hg
   ·unfold BJ MD posOf at KM;rw[if_neg O,if_neg O,if_neg O,if_neg O,if_neg O,if_neg O]at KM;exact KM
   ·rw[OD];show((86400:Nat):Int)*(J.GA/86400)+(3600*(J.GA%86400/3600)+60*(J.GA%86400/60%60)+J.GA%86400%60)=J.GA+((0:Nat):Int)*_;simp;omega
   ·show VG J=if pS (JA J) (3600*(J.GA%86400/3600)+60*(J.GA%86400/60%60)+J.GA%86400%60)=true then[((3600*(J.GA%86400/3600)+60*(J.GA%86400/60%60)+J.GA%86400%60)/3600%24)*3600+((3600*(J.GA%86400/3600)+60*(J.GA%86400/60%60)+J.GA%86400%60)/60%60)*60+((3600*(J.GA%86400/3600)+60*(J.GA%86400/60%60)+J.GA%86400%60)%60)]else[]
    rw[e]
    unfold VG;dsimp only;rw[if_neg O,if_neg O,if_neg O]
end
def tC (f:Int):Int:=if f=4 then 3600 else if f=5 then 60 else 1
def DE (J:MA):Nat:=Nat.gcd J.AA.IA.toNat (MD J.BA)
def AH (J:MA):Int:=J.GA%86400/tC J.BA
def TD (J:MA) (j:Nat):Int:=AH J%(DE J:Int)+(j:Int)*(DE J:Int)
def WH (J:MA) (t:Int):Int:=t*tC J.BA/3600
def BH (J:MA) (t:Int):Int:=t*tC J.BA/60%60
def yH (J:MA) (t:Int):Int:=t*tC J.BA%60
def CM (J:MA) (t:Int):Bool:=CC J.SA (WH J t)&&(!decide (4<J.BA)||CC J.PA (BH J t))&&(!decide (5<J.BA)||CC J.RA (yH J t))
def qE (J:MA) (g:Int->Int) (n:Nat) (x:Int):Bool:=(List.range n).any λj=>CM J (TD J j)&&g (TD J j)==x
def xC (J:MA):Nat:=MD J.BA/DE J
def DN (J:MA):Bool:=decide (J.BA<4)||(J.SA.all (qE J (WH J) (xC J))&&(J.PA.all λx=> !decide (4<J.BA)||qE J (BH J) (xC J) x)&&(J.RA.all λx=> !decide (5<J.BA)||qE J (yH J) (xC J) x))
theorem EU {l:List Int} {n:Int}:CC l n=(((l.length:Int)==0)||l.contains n):=by
 unfold CC
 cases l with
 |nil=>rfl
 |cons a l=>
  have e:(((a::l).length:Int)==0)=false:=by simp;omega
  rw[e];rfl
theorem Ee {J:MA} {g:Int->Int} {n:Nat} {x:Int} (h:qE J g n x=true):∃j,j<n/\CM J (TD J j)=true:=by
 unfold qE at h
 obtain⟨j,hj,e⟩:=List.any_eq_true.1 h
 rw[Bool.and_eq_true]at e
 exact⟨j,List.mem_range.1 hj,e.1⟩
theorem U5 {J:MA} (hc:J.Clean) (hf:4<=J.BA) (h:DN J=true):∃t,BJ J.BA (JA J) t=true/\((Nat.gcd J.AA.IA.toNat (MD J.BA):Nat):Int)∣t-posOf J.BA (PC J):=by
 have xH:=hc.BA
 have Fe:J.AA.SA=J.SA:=if_neg (λe=>by omega)
 have Un:5<=J.BA->J.AA.PA=J.PA:=λh5=>if_neg (λe=>by omega)
 have V5:6<=J.BA->J.AA.RA=J.RA:=λh6=>if_neg (λe=>by omega)
 have HE:posOf J.BA (PC J)=AH J:=by
  unfold posOf AH tC PC
  dsimp only
  rcases(by omega:J.BA=4\/J.BA=5\/J.BA=6)with e|e|e
  ·simp[e]
  ·simp[e];omega
  ·simp[e];omega
 have key:∀t:Int,0<=t->t<(MD J.BA:Int)->CM J t=true->BJ J.BA (JA J) t=true:=by
  intro t h0 D hm
  unfold CM at hm
  unfold BJ
  rcases(by omega:J.BA=4\/J.BA=5\/J.BA=6)with e|e|e
  ·rw[if_pos e]
   unfold pH
   have h2:t%24=WH J t:=by unfold WH tC;unfold MD at D;simp only[e,if_true]at D⊢;omega
   show((J.AA.SA.length:Int)==0||J.AA.SA.contains (t%24))=true
   rw[Fe,h2,<-EU]
   simp only[Bool.and_eq_true]at hm
   exact hm.1.1
  ·rw[if_neg O,if_pos e]
   unfold pM
   have h2:t/60%24=WH J t:=by unfold WH tC;unfold MD at D;simp only[e]at D⊢;simp at D⊢;omega
   have h3:t%60=BH J t:=by unfold BH tC;simp only[e];simp
   show(((J.AA.SA.length:Int)==0||J.AA.SA.contains (t/60%24))&&((J.AA.PA.length:Int)==0||J.AA.PA.contains (t%60)))=true
   rw[Fe,Un O,h2,h3,<-EU,<-EU]
   simp only[Bool.and_eq_true]at hm
   have h5:decide (4<J.BA)=true:=decide_eq_true O
   rw[h5]at hm
   rw[Bool.and_eq_true]
   exact⟨hm.1.1,by simpa using hm.1.2⟩
  ·rw[if_neg O,if_neg O]
   unfold pS
   have h2:t/3600%24=WH J t:=by unfold WH tC;unfold MD at D;simp only[e]at D⊢;simp at D⊢;omega
   have h3:t/60%60=BH J t:=by unfold BH tC;simp only[e];simp
   have h4:t%60=yH J t:=by unfold yH tC;simp only[e];simp
   show((((J.AA.SA.length:Int)==0||J.AA.SA.contains (t/3600%24))&&((J.AA.PA.length:Int)==0||J.AA.PA.contains (t/60%60)))&&((J.AA.RA.length:Int)==0||J.AA.RA.contains (t%60)))=true
   rw[Fe,Un O,V5 O,h2,h3,h4,<-EU,<-EU,<-EU]
   simp only[Bool.and_eq_true]at hm
   have h5:decide (4<J.BA)=true:=decide_eq_true O
   have h6:decide (5<J.BA)=true:=decide_eq_true O
   rw[h5,h6]at hm
   rw[Bool.and_eq_true,Bool.and_eq_true]
   exact⟨⟨hm.1.1,by simpa using hm.1.2⟩,by simpa using hm.2⟩
 have hU:0<MD J.BA:=by unfold MD;(repeat' split)<;>omega
 have ha:0<DE J:=Nat.gcd_pos_of_pos_right _ hU
 have W5:DE J*(MD J.BA/DE J)=MD J.BA:=Nat.mul_div_cancel' (Nat.gcd_dvd_right _ _)
 rw[HE]
 have fin:∀j,j<xC J->CM J (TD J j)=true->∃t,BJ J.BA (JA J) t=true/\((Nat.gcd J.AA.IA.toNat (MD J.BA):Nat):Int)∣t-AH J:=by
  intro j hj hm
  have e1:AH J%(DE J:Int)+(DE J:Int)*(AH J/(DE J:Int))=AH J:=Int.emod_add_mul_ediv _ _
  have r1:0<=AH J%(DE J:Int):=Int.emod_nonneg _ O
  have r2:AH J%(DE J:Int)<(DE J:Int):=Int.emod_lt_of_pos _ O
  have UJ:(j+1)*DE J<=xC J*DE J:=Nat.mul_le_mul_right _ hj
  have hN:xC J*DE J=MD J.BA:=by unfold xC;rw[Nat.mul_comm];exact W5
  have hja:((j*DE J:Nat):Int)=(j:Int)*(DE J:Int):=Int.natCast_mul _ _
  rw[Nat.succ_mul]at UJ
  refine⟨TD J j,key _ ?_ ?_ hm,⟨(j:Int)-AH J/(DE J:Int),?_⟩⟩
  ·unfold TD;omega
  ·unfold TD;omega
  ·show TD J j-AH J=(DE J:Int)*((j:Int)-AH J/(DE J:Int))
   unfold TD
   rw[Int.mul_sub,Int.mul_comm (DE J:Int) (j:Int)];omega
 unfold DN at h
 rw[decide_eq_false O,Bool.false_or,Bool.and_eq_true,Bool.and_eq_true]at h
 obtain⟨⟨D,h2⟩,h3⟩:=h
 by_cases c1:J.SA=[]
 ·by_cases c2:J.PA=[]\/J.BA=4
  ·by_cases c3:J.RA=[]\/J.BA<=5
   ·refine⟨AH J,key _ ?_ ?_ ?_,⟨0,O⟩⟩
    ·unfold AH tC;(repeat' split)<;>omega
    ·unfold AH tC MD;rcases(by omega:J.BA=4\/J.BA=5\/J.BA=6)with e|e|e<;>simp[e]<;>omega
    ·unfold CM CC
     rw[c1]
     simp only[List.isEmpty_nil,Bool.true_or,Bool.true_and,Bool.and_eq_true]
     constructor
     ·rcases c2 with c2|c2
      ·rw[c2];simp
      ·rw[c2];simp
     ·rcases c3 with c3|c3
      ·rw[c3];simp
      ·rw[decide_eq_false O];rfl
   ·obtain⟨x,l,e⟩:∃x l,J.RA=x::l:=by
     cases hs:J.RA with
     |nil=>exact absurd (.inl hs) c3
     |cons x l=>exact⟨x,l,rfl⟩
    have:=List.all_eq_true.1 h3 x (by rw[e];simp)
    rw[decide_eq_true (show 5<J.BA by omega)]at this
    obtain⟨j,hj,hm⟩:=Ee (show qE J (yH J) (xC J) x=true by simpa using this)
    exact fin j hj hm
  ·obtain⟨x,l,e⟩:∃x l,J.PA=x::l:=by
    cases hs:J.PA with
    |nil=>exact absurd (.inl hs) c2
    |cons x l=>exact⟨x,l,rfl⟩
   have:=List.all_eq_true.1 h2 x (by rw[e];simp)
   rw[decide_eq_true (show 4<J.BA by omega)]at this
   obtain⟨j,hj,hm⟩:=Ee (show qE J (BH J) (xC J) x=true by simpa using this)
   exact fin j hj hm
 ·obtain⟨x,l,e⟩:∃x l,J.SA=x::l:=by
   cases hs:J.SA with
   |nil=>exact absurd hs c1
   |cons x l=>exact⟨x,l,rfl⟩
  have:=List.all_eq_true.1 D x (by rw[e];simp)
  obtain⟨j,hj,hm⟩:=Ee this
  exact fin j hj hm
def vO (l:List (Int×Int)):Nat:=l.countP λd=>d.2 !=0
def FU (J:MA):Bool:=
 (J.CE&&decide (J.xB<J.GA))||
 (decide (J.BA<=1)&&decide (0<vO J.FA)&&decide (vO J.FA<J.FA.length))||
 (J.sA.contains (-52)&&(J.sA.contains 52||J.sA.contains 53||J.sA.contains (-53)))||
 (decide (J.BA=2)&&decide (0<J.OB.length)&&decide (J.GA/86400%7≠J.HB))||
 (decide (4<=J.BA)&&(decide (0<J.OB.length+J.VA.length+J.TA.length+J.LB.length)||decide (24<J.IA)))||
 !DN J
def nR (J:MA) (n:Int):Bool:=decide (52<=n)||decide (n<=-52)||((decide (n=1)||decide (n= -1))&&(decide (1<J.IA)||decide (0<J.OB.length)))
def BQ (J:MA) (met:Bool):Bool:=
 (decide (0<J.sA.length)&&(decide (J.FA.length=0)||decide (0<J.TA.length+J.LB.length)||J.sA.any (nR J)))||
 (decide (J.BA=2)&&decide (0<J.OB.length)&&decide (J.GA/86400%7≠J.HB))||
 (J.FA.any (λd=>d.2 !=0)&&(J.FA.any (λd=>d.2==0)||decide (0<J.TA.length+J.LB.length+J.sA.length)))||
 !met
theorem X5 {J:MA} (hn:0<=J.BA) (hc:J.Clean) (hl:FU J=false) {m:Bool} (hu:BQ J m=false):lR J:=by
 unfold FU at hl
 unfold BQ at hu
 simp only[Bool.or_eq_false_iff]at hl hu
 obtain⟨⟨⟨⟨⟨l1,l2⟩,l3⟩,l4⟩,l5⟩,l6⟩:=hl
 obtain⟨⟨⟨u1,u2⟩,u3⟩,u4⟩:=hu
 have Vn:∀{l:List Int},¬0<l.length->l=[]:=λ{l} h=>List.length_eq_zero_iff.1 O
 refine⟨hc,hn,?_,?_,?_,?_,?_,?_⟩
 ·intro h n hm
  rw[decide_eq_true h,Bool.true_and]at u1
  simp only[Bool.or_eq_false_iff]at u1
  have:=List.any_eq_false.1 u1.2 n hm
  unfold nR at this
  simp only[Bool.or_eq_true,decide_eq_true_eq,not_or]at this
  omega
 ·intro h2
  by_cases h3:0<J.OB.length
  ·right
   rw[decide_eq_true h2,decide_eq_true h3]at u2
   simpa using u2
  ·exact .inl (Vn h3)
 ·by_cases h:J.FA.any (λd=>d.2 !=0)=true
  ·rw[h,Bool.true_and,Bool.or_eq_false_iff]at u3
   right
   intro p hp e
   have:=List.any_eq_false.1 u3.1 p hp
   simp[e]at this
  ·left
   intro p hp
   have h:J.FA.any (λd=>d.2 !=0)=false:=by simpa using h
   have:=List.any_eq_false.1 h p hp
   simpa using this
 ·intro h4
  rw[decide_eq_true h4,Bool.true_and,Bool.or_eq_false_iff]at l5
  have:=of_decide_eq_false l5.1
  exact Vn O
 ·intro h4
  rw[decide_eq_true h4,Bool.true_and,Bool.or_eq_false_iff]at l5
  have:=of_decide_eq_false l5.2
  omega
 ·intro h4
  refine U5 hc h4 ?_
  simpa using l6
end En
end Go.Proofs.YtkidgehblodbcaaGreatDoor
